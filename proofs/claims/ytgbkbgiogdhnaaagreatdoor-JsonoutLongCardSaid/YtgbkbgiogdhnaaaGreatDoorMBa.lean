/- The walks of graph's reached and of the closure in it: what is reached is marked. -/
import Derived.Test.YtgbkbgiogdhnaaaGreatDoorMAi
set_option linter.unusedVariables false
set_option linter.unusedSimpArgs false
set_option linter.defProp false
set_option linter.constructorNameAsVariable false
namespace Go.Proofs.YtgbkbgiogdhnaaaGreatDoor
open Go.RowKit
structure VE (w:World) (B g o c xb gb vb mb:Nat) (nodes:List GNode) (root:Int):Prop where
 gr:GRd w B g o nodes
 bx:Arr w xb 128 [.slice (some ⟨mb,0,none⟩) nodes.length nodes.length]
 bg:Arr w gb 29 [.slice (some ⟨g,o,none⟩) nodes.length c,.int .i64 root]
 bv:Arr w vb 53 [.func (.func 93) #[] #[.pointer (some ⟨xb,0,none⟩),.pointer (some ⟨gb,0,none⟩),.pointer (some ⟨vb,0,none⟩)]]
 lo:B≤mb
 nx:xb≠mb
 ng:gb≠mb
 nv:vb≠mb
theorem VE.grown {w w':World} {B g o c xb gb vb mb:Nat} {nodes:List GNode} {root:Int} (h:VE w B g o c xb gb vb mb nodes root) (hb:w.grownBy w' (some mb)):VE w' B g o c xb gb vb mb nodes root:=
 ⟨h.gr.grown hb h.lo,h.bx.grown hb (by intro e;exact h.nx (Option.some.inj e)),h.bg.grown hb (by intro e;exact h.ng (Option.some.inj e)),h.bv.grown hb (by intro e;exact h.nv (Option.some.inj e)),h.lo,h.nx,h.ng,h.nv⟩
def VisC (w:World) (mb:Nat) (m:List Bool) (e:Ending) (w':World):Prop:=e=.returned (.tuple #[])∧w.grownBy w' (some mb)∧Hid (Arr w' mb 4 (Bs m))
theorem visitV_len {nodes:List GNode} {f:Nat} {x:Int} {m m':List Bool} (h:visitV nodes f x m=some m') (hl:m.length=nodes.length):m'.length=nodes.length:=by
 induction f generalizing x m m' with
 | zero=>cases h
 | succ f ih=>
  rw [visitV] at h
  split at h
  ·split at h
   ·rw [←Option.some.inj h];exact hl
   ·have run:∀(xs:List Int) (a b:List Bool),runG (visitV nodes f) xs a=some b→a.length=nodes.length→b.length=nodes.length:=by
     intro xs
     induction xs with
     | nil=>intro a b e ha;rw [←Option.some.inj e];exact ha
     | cons y xs ihx=>
      intro a b e ha
      rw [runG] at e
      split at e
      ·cases e
      ·rename_i a1 e1
       exact ihx a1 b e (ih e1 ha)
    split at h
    ·cases h
    ·rename_i m1 e1
     exact run _ _ _ h (run _ _ _ e1 (by rw [List.length_set];exact hl))
  ·cases h
set_option maxRecDepth 20000 in
set_option maxHeartbeats 4000000 in
theorem visit_any {B g o c xb gb vb mb:Nat} {nodes:List GNode} {root:Int} (hI:Idx nodes) (hL:NL 65536 nodes) (f:Nat):∀(k:Nat) (m m':List Bool) (w:World),visitV nodes f (k:Int) m=some m'→m.length=nodes.length →
  VE w B g o c xb gb vb mb nodes root→Arr w mb 4 (Bs m)→Calls Tryz.prog 93 #[.int .i64 (k:Int),.pointer (some ⟨xb,0,none⟩),.pointer (some ⟨gb,0,none⟩),.pointer (some ⟨vb,0,none⟩)] w (VisC w mb m'):=by
 induction f with
 | zero=>intro k m m' w h;cases h
 | succ f ih=>
  intro k m m' w h hl hE hM
  rw [visitV] at h
  split at h
  ·rename_i hin
   obtain⟨_,hk2⟩:=inB_iff.1 hin
   have hk:k<nodes.length:=by omega
   have hkl:(k:Int)<nodes.length:=by omega
   have hk0:(0:Int)≤k:=by omega
   rw [Int.toNat_natCast] at h
   have x0:=hE.bx.cell' (i:=0) rfl
   have m0:=hM.cell' (Bs_get (m:=m) (k:=k) (by omega))
   by_cases hm:m.getD k false=true
   ·rw [if_pos hm] at h
    obtain rfl:=Option.some.inj h
    rw [hm] at m0
    go_enter Tryz.func93,Tryz.ntmps93
    go_wp2_with (fail)
    go_end0
    exact⟨rfl,World.grownBy.refl _ _,hM⟩
   ·rw [if_neg hm] at h
    have hm':m.getD k false=false:=by simpa using hm
    rw [hm'] at m0
    have f0:=hM.frozen k
    have hM1:Hid (Arr (w.setCell ⟨mb,k,none⟩ (.bool true)) mb 4 (Bs (m.set k true))):=by
     have:=hM.store k (.bool true)
     rw [Bs_set] at this
     exact this
    have hg1:=grown_set w ⟨mb,k,none⟩ (.bool true)
    have hE1:=hE.grown hg1
    have HG:=Lib.hid hg1
    go_enter Tryz.func93,Tryz.ntmps93
    go_upto_region 2 with(fail)
    clear m0 f0 x0 hm hm' hg1
    generalize w.setCell ⟨mb,k,none⟩ (.bool true)=w1 at *
    have hlm:(m.set k true).length=nodes.length:=by rw [List.length_set];exact hl
    obtain⟨K,ck,I,ci,c0,c1,c2,c3,c4,⟨hK,hKb⟩,hI',hIb⟩:=hE1.gr.of_at hk
    obtain⟨hKl,hIl⟩:=hL k hk
    have g0:=hE1.bg.cell' (i:=0) rfl
    have hrefs:=Lib.hid (hI k hk)
    have HK:=Lib.hid hK
    have HI:=Lib.hid hI'
    have HKB:=Lib.hid hKb
    have HIB:=Lib.hid hIb
    clear hKb hIb hK hI' c0 c1 c2 hin hk2
    generalize hnd:ndAt nodes k=nd at *
    generalize hmk:m.set k true=m0 at *
    cases hr:runG (visitV nodes f) nd.keys m0 with
    | none=>rw [hr] at h;cases h
    | some mk=>
     rw [hr] at h
     have h2:runG (visitV nodes f) nd.items mk=some m':=h
     have HR:=Lib.hid hr
     have HH:=Lib.hid h2
     have HLM:=Lib.hid hlm
     clear h h2 hr hnd hmk hl hlm
     go_wp2_with (fail)
     go_loopw [23] (fun v wr=>∃(j:Nat) (m1:List Bool),j≤nd.keys.length∧v=.int .i64 (j:Int)∧Hid (runG (visitV nodes f) (nd.keys.drop j) m1=some mk)∧Hid (m1.length=nodes.length)∧Hid (Arr wr mb 4 (Bs m1))∧w1.grownBy wr (some mb)) (fun v _=>nd.keys.length - (intOf v).toNat)
     case atStart=>exact⟨0,m0,Nat.zero_le _,rfl,HR,HLM,hM1,World.grownBy.refl _ _⟩
     case round=>
      obtain⟨j,m1,hj,rfl,hrun,hlm1,hMr,hgr⟩:=hrel
      have hEr:=hE1.grown hgr
      by_cases hjl:j=nd.keys.length
      ·have hjl':¬(j:Int)<nd.keys.length:=by omega
       have hmk:m1=mk:=by
        have:=hrun.out
        rw [List.drop_of_length_le (by omega)] at this
        exact Option.some.inj this
       subst hmk
       have g0':=hEr.bg.cell' (i:=0) rfl
       have hk4:wr.cell? ⟨g,o+k*5+4,none⟩=some (.slice I nd.items.length ci):=hgr.cell c4 (by intro e;have e':g=mb:=Option.some.inj e;have:=hE1.gr.1;have:=hE1.lo;omega)
       have HI2:=Lib.hid (HI.out.grown hgr (fun ad e h=>by have:=HIB.out ad e;have:=Option.some.inj h;have:=hE1.lo;omega))
       clear hrun
       obtain⟨wo,hwo⟩:∃wo:World,wo=wr:=⟨_,rfl⟩
       subst hwo
       go_wp2_with (fail)
       go_loopw [38] (fun v wr=>∃(j:Nat) (m1:List Bool),j≤nd.items.length∧v=.int .i64 (j:Int)∧Hid (runG (visitV nodes f) (nd.items.drop j) m1=some m')∧Hid (m1.length=nodes.length)∧Hid (Arr wr mb 4 (Bs m1))∧wo.grownBy wr (some mb)) (fun v _=>nd.items.length - (intOf v).toNat)
       case atStart=>exact⟨0,m1,Nat.zero_le _,rfl,HH,hlm1,hMr,World.grownBy.refl _ _⟩
       case round=>
        obtain⟨i,m3,hi,rfl,hrun,hlm3,hMs,hgs⟩:=hrel
        have hEs:=hEr.grown hgs
        by_cases hil:i=nd.items.length
        ·have hil':¬(i:Int)<nd.items.length:=by omega
         have hm3:m3=m':=by
          have:=hrun.out
          rw [List.drop_of_length_le (by omega)] at this
          exact Option.some.inj this
         subst hm3
         go_wp2_with (fail)
         go_end0
         exact⟨rfl,grown_trans HG.out (grown_trans hgr hgs),hMs⟩
        ·have hil':(i:Int)<nd.items.length:=by omega
         obtain⟨x,hx⟩:∃x,nd.items[i]? = some x:=⟨_,List.getElem?_eq_getElem (by omega)⟩
         obtain⟨ad,rfl,hc⟩:=(HI2.out.grown hgs (fun ad e h=>by have:=HIB.out ad e;have:=Option.some.inj h;have:=hE1.lo;omega)).at_ (I64_get hx)
         have hxr:=hrefs.out x (by unfold refs;exact List.mem_append.2 (.inr (List.mem_of_getElem? hx)))
         obtain⟨kx,rfl⟩:∃kx:Nat,x=(kx:Int):=⟨x.toNat,by omega⟩
         have hrun':=hrun.out
         rw [drop_cons_at hx,runG] at hrun'
         cases hv:visitV nodes f (kx:Int) m3 with
         | none=>rw [hv] at hrun';cases hrun'
         | some m2=>
          rw [hv] at hrun'
          have HRUN:=Lib.hid hrun'
          have D:=Lib.hid (ih kx m3 m2 wr hv hlm3.out hEs hMs.out)
          have HL2:=Lib.hid (visitV_len hv hlm3.out)
          have v0:=hEs.bv.cell' (i:=0) rfl
          clear hrun hrun' hv hxr hrefs hx
          go_wp2_with (go_at_call 93;((with_reducible refine D.out.mono ?_));rintro e w2 ⟨rfl,hg2,hM2⟩)
          go_roundw
          case rel=>exact⟨i+1,m2,by omega,i64e (by omega),HRUN,HL2,hM2,grown_trans hgs hg2⟩
          case measure=>simp [intOf];omega
      ·have hjl':(j:Int)<nd.keys.length:=by omega
       obtain⟨x,hx⟩:∃x,nd.keys[j]? = some x:=⟨_,List.getElem?_eq_getElem (by omega)⟩
       obtain⟨ad,rfl,hc⟩:=(HK.out.grown hgr (fun ad e h=>by have:=HKB.out ad e;have:=Option.some.inj h;have:=hE1.lo;omega)).at_ (I64_get hx)
       have hxr:=hrefs.out x (by unfold refs;exact List.mem_append.2 (.inl (List.mem_of_getElem? hx)))
       obtain⟨kx,rfl⟩:∃kx:Nat,x=(kx:Int):=⟨x.toNat,by omega⟩
       have hrun':=hrun.out
       rw [drop_cons_at hx,runG] at hrun'
       cases hv:visitV nodes f (kx:Int) m1 with
       | none=>rw [hv] at hrun';cases hrun'
       | some m2=>
        rw [hv] at hrun'
        have HRUN:=Lib.hid hrun'
        have D:=Lib.hid (ih kx m1 m2 wr hv hlm1.out hEr hMr.out)
        have HL2:=Lib.hid (visitV_len hv hlm1.out)
        have v0:=hEr.bv.cell' (i:=0) rfl
        clear hrun hrun' hv hxr hrefs hx
        go_wp2_with (go_at_call 93;((with_reducible refine D.out.mono ?_));rintro e w2 ⟨rfl,hg2,hM2⟩)
        go_roundw
        case rel=>exact⟨j+1,m2,by omega,i64e (by omega),HRUN,HL2,hM2,grown_trans hgr hg2⟩
        case measure=>simp [intOf];omega
  ·cases h
set_option maxRecDepth 20000 in
set_option maxHeartbeats 4000000 in
theorem reached_any {B g o c mb:Nat} {nodes:List GNode} {root:Int} (hI:Idx nodes) (hL:NL 65536 nodes) (k:Nat) (hk:k<nodes.length) (m:List Bool) (w:World) (hl:m.length=nodes.length) (hG:GRd w B g o nodes) (hB:B≤mb) (hM:Arr w mb 4 (Bs m)) :
  Calls Tryz.prog 63 #[.agg #[.slice (some ⟨g,o,none⟩) nodes.length c,.int .i64 root],.int .i64 (k:Int),.slice (some ⟨mb,0,none⟩) nodes.length nodes.length] w (VisC w mb (reachedV nodes (k:Int) m)):=by
 have hv:=(reachedV_ok hI (at_:=(k:Int)) ⟨by omega,by omega⟩ hl).1
 have hmf:∀(fn:Fn) (first cap:Array Value) (w:World),(Instr.makeFunc fn first cap).run Tryz.prog w=.ok (.func fn first cap) w:=fun _ _ _ _=>rfl
 have hml:=hM.lt
 go_enter Tryz.func63,Tryz.ntmps63
 go_upto_region 2 with(fail)
 obtain⟨h1,h2,h3,h4,_⟩:=box3 w 29 128 53 [.slice (some ⟨g,o,none⟩) nodes.length c,.int .i64 root] [.slice (some ⟨mb,0,none⟩) nodes.length nodes.length] [.nilFunc]
 have hX:Hid (Arr (((w.alloc (.cells #[.slice (some ⟨g,o,none⟩) nodes.length c,.int .i64 root] 29)).alloc (.cells #[.slice (some ⟨mb,0,none⟩) nodes.length nodes.length] 128)).alloc (.cells #[.nilFunc] 53)) w.heap.size 29 [.slice (some ⟨g,o,none⟩) nodes.length c,.int .i64 root]):=h1
 have hY:Hid (Arr (((w.alloc (.cells #[.slice (some ⟨g,o,none⟩) nodes.length c,.int .i64 root] 29)).alloc (.cells #[.slice (some ⟨mb,0,none⟩) nodes.length nodes.length] 128)).alloc (.cells #[.nilFunc] 53)) (w.heap.size+1) 128 [.slice (some ⟨mb,0,none⟩) nodes.length nodes.length]):=h2
 have hZ:Hid (Arr (((w.alloc (.cells #[.slice (some ⟨g,o,none⟩) nodes.length c,.int .i64 root] 29)).alloc (.cells #[.slice (some ⟨mb,0,none⟩) nodes.length nodes.length] 128)).alloc (.cells #[.nilFunc] 53)) (w.heap.size+1+1) 53 [.nilFunc]):=h3
 have hB3:Below w.heap.size w (((w.alloc (.cells #[.slice (some ⟨g,o,none⟩) nodes.length c,.int .i64 root] 29)).alloc (.cells #[.slice (some ⟨mb,0,none⟩) nodes.length nodes.length] 128)).alloc (.cells #[.nilFunc] 53)):=h4
 clear h1 h2 h3 h4
 generalize (((w.alloc (.cells #[.slice (some ⟨g,o,none⟩) nodes.length c,.int .i64 root] 29)).alloc (.cells #[.slice (some ⟨mb,0,none⟩) nodes.length nodes.length] 128)).alloc (.cells #[.nilFunc] 53))=W at *
 obtain⟨vb,hvb⟩:∃b,w.heap.size+1+1=b:=⟨_,rfl⟩
 obtain⟨xb,hxb⟩:∃b,w.heap.size+1=b:=⟨_,rfl⟩
 obtain⟨gb,hgb⟩:∃b,w.heap.size=b:=⟨_,rfl⟩
 have l1:mb<gb∧gb<xb∧xb<vb:=by omega
 have hgb0:=Lib.hid hgb
 rw [hvb] at hZ ⊢
 rw [hxb] at hY ⊢
 rw [hgb] at hX ⊢
 have hBL:=Lib.hid hB3
 clear hvb hxb hgb hB3
 obtain⟨l2,l3,l4⟩:=l1
 have z0:=hZ.out.cell' (i:=0) rfl
 have zf:=hZ.out.frozen 0
 have hZ1:Hid (Arr (W.setCell ⟨vb,0,none⟩ (.func (.func 93) #[] #[.pointer (some ⟨xb,0,none⟩),.pointer (some ⟨gb,0,none⟩),.pointer (some ⟨vb,0,none⟩)])) vb 53 [.func (.func 93) #[] #[.pointer (some ⟨xb,0,none⟩),.pointer (some ⟨gb,0,none⟩),.pointer (some ⟨vb,0,none⟩)]]):=hZ.out.store 0 _
 have hX1:=Lib.hid (hX.out.far (p:=⟨vb,0,none⟩) (show gb≠vb by omega) (.func (.func 93) #[] #[.pointer (some ⟨xb,0,none⟩),.pointer (some ⟨gb,0,none⟩),.pointer (some ⟨vb,0,none⟩)]))
 have hY1:=Lib.hid (hY.out.far (p:=⟨vb,0,none⟩) (show xb≠vb by omega) (.func (.func 93) #[] #[.pointer (some ⟨xb,0,none⟩),.pointer (some ⟨gb,0,none⟩),.pointer (some ⟨vb,0,none⟩)]))
 have hB4:=Lib.hid (hBL.out.setCell (p:=⟨vb,0,none⟩) (by show w.heap.size≤vb;rw [hgb0.out];omega) (.func (.func 93) #[] #[.pointer (some ⟨xb,0,none⟩),.pointer (some ⟨gb,0,none⟩),.pointer (some ⟨vb,0,none⟩)]))
 clear hX hY hZ hBL
 go_upto_region 3 with(fail)
 clear z0 zf
 generalize W.setCell ⟨vb,0,none⟩ (.func (.func 93) #[] #[.pointer (some ⟨xb,0,none⟩),.pointer (some ⟨gb,0,none⟩),.pointer (some ⟨vb,0,none⟩)])=W4 at *
 have hE:VE W4 B g o c xb gb vb mb nodes root:=⟨hG.below hB4.out (by omega),hY1.out,hX1.out,hZ1.out,hB,by omega,by omega,by omega⟩
 have D:=Lib.hid (visit_any hI hL (nodes.length+1) k m (reachedV nodes (k:Int) m) W4 hv hl hE (hM.below hB4.out hml))
 have v0:=hZ1.out.cell' (i:=0) rfl
 have hgw:w.grownBy W4 (some mb):=⟨hB4.out.os,hB4.out.tape,hB4.out.output,hB4.out.size,fun j hj _=>hB4.out.block j hj⟩
 clear hv hl hM hE hX1 hY1 hZ1
 go_wp2_with (go_at_call 93;((with_reducible refine D.out.mono ?_));rintro e w5 ⟨rfl,hg5,hM5⟩)
 go_end0
 exact⟨rfl,grown_trans hgw hg5,hM5⟩
end Go.Proofs.YtgbkbgiogdhnaaaGreatDoor
namespace Go.Proofs.YtgbkbgiogdhnaaaGreatDoor
open Go.RowKit
def CB (l:List Int) (q:Nat):Prop:=∀k,0≤l.getD k 0∧l.getD k 0≤(q:Int)
theorem CB.zero (n:Nat):CB (List.replicate n 0) 0:=fun k=>by
 rw [List.getD_eq_getElem?_getD,List.getElem?_replicate];split <;> simp
theorem CB.bump {l:List Int} {q:Nat} (h:CB l q) (x:Int):CB (bump l x) (q+1):=fun k=>by
 unfold Proofs.YtgbkbgiogdhnaaaGreatDoor.bump
 rw [List.getD_eq_getElem?_getD,List.getElem?_set]
 have h1:=h k
 have h2:=h x.toNat
 split
 ·split
  ·simp only [Option.getD_some];omega
  ·simp only [Option.getD_none];omega
 ·rw [←List.getD_eq_getElem?_getD];omega
theorem flat_drop {nodes:List GNode} {i:Nat} (h:i<nodes.length):(nodes.drop i).flatMap refs=(ndAt nodes i).keys ++ ((ndAt nodes i).items ++ (nodes.drop (i+1)).flatMap refs):=by
 rw [List.drop_eq_getElem_cons h,List.flatMap_cons]
 have e:nodes[i]=ndAt nodes i:=by have:=ndAt_get h;rw [List.getElem?_eq_getElem h] at this;exact Option.some.inj this
 rw [e]
 unfold refs
 rw [List.append_assoc]
theorem infoInt:(Tryz.prog.info? 3).map (fun i=>(i.zero,i.size,i.bytes))=some (some (.int .i64 0),1,8):=by kernel_rfl
theorem infoBool:(Tryz.prog.info? 4).map (fun i=>(i.zero,i.size,i.bytes))=some (some (.bool false),1,1):=by kernel_rfl
set_option maxRecDepth 20000 in
set_option maxHeartbeats 4000000 in
theorem counts_any {B g o c:Nat} {nodes:List GNode} {root:Int} (hV:indicesV nodes root=true) (hL:NL 65536 nodes) (hN:nodes.length≤65536) (w:World) (hG:GRd w B g o nodes) :
  Calls Tryz.prog 65 #[.agg #[.slice (some ⟨g,o,none⟩) nodes.length c,.int .i64 root]] w fun e w'=>∃cb,e=.returned (.slice (some ⟨cb,0,none⟩) nodes.length nodes.length)∧w.heap.size≤cb∧Below w.heap.size w w'∧Hid (Arr w' cb 3 (I64 (countsV nodes root))):=by
 obtain⟨⟨hr1,hr2⟩,hI⟩:=idx_of hV
 obtain⟨r,rfl⟩:∃r:Nat,root=(r:Int):=⟨root.toNat,by omega⟩
 have h1:Hid (Arr (w.alloc (.cells #[.slice (some ⟨g,o,none⟩) nodes.length c,.int .i64 (r:Int)] 29)) w.heap.size 29 [.slice (some ⟨g,o,none⟩) nodes.length c,.int .i64 (r:Int)]):=Arr.new w 29 [.slice (some ⟨g,o,none⟩) nodes.length c,.int .i64 (r:Int)]
 have hB1:Hid (Below w.heap.size w (w.alloc (.cells #[.slice (some ⟨g,o,none⟩) nodes.length c,.int .i64 (r:Int)] 29))):=(Below.refl _ _).alloc (Nat.le_refl _) _
 have HV:=Lib.hid hV
 have HG:=Lib.hid hG
 have hI':=Lib.hid hI
 clear hV hG hI
 go_enter Tryz.func65,Tryz.ntmps65
 go_upto_region 1 with(fail)
 generalize w.alloc (.cells #[.slice (some ⟨g,o,none⟩) nodes.length c,.int .i64 (r:Int)] 29)=W at *
 have hGW:Hid (GRd W B g o nodes):=HG.out.below hB1.out (by exact HG.out.2.1)
 obtain⟨n,hn⟩:∃n,nodes.length=n:=⟨_,rfl⟩
 obtain⟨gb,hgb⟩:∃b,w.heap.size=b:=⟨_,rfl⟩
 have hgbl:=h1.out.lt
 rw [hgb] at h1 hgbl hB1 ⊢
 rw [hn] at h1 hr2 hN ⊢
 have x0:=h1.out.cell' (i:=0) rfl
 have x1:=h1.out.cell' (i:=1) rfl
 have HN:=Lib.hid hn
 have HGB:=Lib.hid hgb
 clear hn hgb
 go_upto_region 2 with(at_make;go_loud (refine wpList_mk rfl _ _ 41 rfl 3 _ _ Tryz.underlying41 infoInt rfl _ _ _ _ rfl rfl n n (by omega) (by omega) (by omega) (by omega) (by unfold maxLen;omega) ?_;intro cb w2 hcb hC hb2 hz2))
 have hB2:Hid (Below gb w w2):=hB1.out.trans (hb2.mono (Nat.le_of_lt hgbl))
 have l1:gb<cb:=by have:=hcb.out;omega
 have hX:=h1.out.keep hb2
 have y0:=hX.cell' (i:=0) rfl
 have y1:=hX.cell' (i:=1) rfl
 have hCz:Hid (Arr w2 cb 3 (I64 (List.replicate n 0))):=by rw [←I64_rep];exact hC
 have z0:w2.cell? ⟨cb,r,none⟩=some (.int .i64 0):=by
  have:=hCz.out.cell' (I64_getD (l:=List.replicate n 0) (k:=r) (by simp;omega))
  rw [this,List.getD_eq_getElem?_getD,List.getElem?_replicate];split <;> rfl
 have zf:=hCz.out.frozen r
 have hC3:Hid (Arr (w2.setCell ⟨cb,r,none⟩ (.int .i64 1)) cb 3 (I64 (bump (List.replicate n 0) (r:Int)))):=by
  have h:=hCz.out.store r (.int .i64 1)
  rw [I64_set] at h
  have e:(List.replicate n (0:Int)).set r 1=bump (List.replicate n 0) (r:Int):=by
   unfold bump
   rw [Int.toNat_natCast]
   have:(List.replicate n (0:Int)).getD r 0=0:=by rw [List.getD_eq_getElem?_getD,List.getElem?_replicate];split <;> rfl
   rw [this];rfl
  rw [e] at h
  exact h
 have hB3:=Lib.hid (hB2.out.setCell (p:=⟨cb,r,none⟩) (show gb≤cb by omega) (.int .i64 1))
 have hX3:=Lib.hid (hX.far (p:=⟨cb,r,none⟩) (show gb≠cb by omega) (.int .i64 1))
 clear hC hCz hB2 hb2 hz2 x0 x1 h1 hX
 go_upto_region 3 with(fail)
 clear y0 y1 z0 zf
 generalize w2.setCell ⟨cb,r,none⟩ (.int .i64 1)=w3 at *
 have y0:=hX3.out.cell' (i:=0) rfl
 have HCB:Hid (CB (bump (List.replicate n 0) (r:Int)) 1):=(CB.zero n).bump _
 have HFI:Hid (((nodes.drop 0).flatMap refs).foldl bump (bump (List.replicate n 0) (r:Int))=countsV nodes (r:Int)):=by
  rw [List.drop_zero,←HN.out];exact rfl
 have hlen0:Hid ((bump (List.replicate n 0) (r:Int)).length=n):=by rw [bump_len];exact List.length_replicate
 go_wp2_with (fail)
 go_loopw [24] (fun v wr=>∃(i:Nat) (cur:List Int) (q:Nat),i≤n∧v=.int .i64 (i:Int)∧q≤1+i*131072∧Hid (CB cur q)∧Hid (cur.length=n)∧Hid (((nodes.drop i).flatMap refs).foldl bump cur=countsV nodes (r:Int))∧Hid (Arr wr cb 3 (I64 cur))∧Hid (Below gb w wr)∧w3.grownBy wr (some cb)) (fun v _=>n - (intOf v).toNat)
 case atStart=>exact⟨0,_,1,Nat.zero_le _,rfl,by omega,HCB,hlen0,HFI,hC3,hB3,World.grownBy.refl _ _⟩
 case round=>
  obtain⟨i,cur,q,hi,rfl,hq,hcb1,hcl,hfi,hCr,hBr,hgr⟩:=hrel
  by_cases hin:i=n
  ·have hin':¬(i:Int)<n:=by omega
   have he:cur=countsV nodes (r:Int):=by
    have:=hfi.out
    rw [List.drop_of_length_le (by have:=HN.out;omega)] at this
    exact this
   subst he
   go_wp2_with (fail)
   go_ret
   exact⟨cb,by rw [HN.out];rfl,by have:=HGB.out;omega,by rw [HGB.out];exact hBr,hCr⟩
  ·have hin':(i:Int)<n:=by omega
   have hi2:i<nodes.length:=by have:=HN.out;omega
   have hGr:=(HG.out.below hBr.out (by have:=HG.out.2.1;have:=HGB.out;omega)).of_at hi2
   obtain⟨K,ck,I,ci,c0,c1,c2,c3,c4,⟨hK,hKb⟩,hIt,hIb⟩:=hGr
   have k0:(0:Int)≤i:=by omega
   have hcbl:=hCr.out.lt
   have hND:Hid (Arr (wr.alloc (.cells #[.int .i64 (ndAt nodes i).kind,.string (mks (ndAt nodes i).text),.bool (ndAt nodes i).ord,.slice K (ndAt nodes i).keys.length ck,.slice I (ndAt nodes i).items.length ci] 43)) wr.heap.size 43 [.int .i64 (ndAt nodes i).kind,.string (mks (ndAt nodes i).text),.bool (ndAt nodes i).ord,.slice K (ndAt nodes i).keys.length ck,.slice I (ndAt nodes i).items.length ci]):=Arr.new wr _ _
   have hbn:Hid (Below wr.heap.size wr (wr.alloc (.cells #[.int .i64 (ndAt nodes i).kind,.string (mks (ndAt nodes i).text),.bool (ndAt nodes i).ord,.slice K (ndAt nodes i).keys.length ck,.slice I (ndAt nodes i).items.length ci] 43))):=(Below.refl _ _).alloc (Nat.le_refl _) _
   have HK:=Lib.hid hK
   have HI:=Lib.hid hIt
   have HKB:=Lib.hid hKb
   have HIB:=Lib.hid hIb
   clear hK hIt hKb hIb
   go_upto_region 6 with(fail)
   clear c0 c1 c2 c3 c4
   generalize (wr.alloc (.cells #[.int .i64 (ndAt nodes i).kind,.string (mks (ndAt nodes i).text),.bool (ndAt nodes i).ord,.slice K (ndAt nodes i).keys.length ck,.slice I (ndAt nodes i).items.length ci] 43))=w5 at *
   have hB5:Hid (Below gb w w5):=hBr.out.trans (hbn.out.mono (by have:=hBr.out.size;have:=HGB.out;omega))
   have hC5:=Lib.hid (hCr.out.keep hbn.out)
   have hK5:=Lib.hid (HK.out.keep hbn.out)
   have hI5:=Lib.hid (HI.out.keep hbn.out)
   have hg5:Hid (w3.grownBy w5 (some cb)):=grown_trans hgr ⟨hbn.out.os,hbn.out.tape,hbn.out.output,hbn.out.size,fun j hj _=>hbn.out.block j hj⟩
   have hnbl:=hND.out.lt
   obtain⟨nb,hnb⟩:∃b,wr.heap.size=b:=⟨_,rfl⟩
   rw [hnb] at hND hnbl hcbl ⊢
   have hgbn:gb<nb:=by have:=hBr.out.size;have:=HGB.out;omega
   obtain⟨hLk,hLi⟩:=hL i hi2
   have hrf:=Lib.hid (hI'.out i hi2)
   rw [flat_drop hi2,List.foldl_append,List.foldl_append] at hfi
   clear hnb hBr hCr HK HI hbn hgr
   generalize ndAt nodes i=nd at *
   have n3:=hND.out.cell' (i:=3) rfl
   go_wp2_with (fail)
   go_loopw [31] (fun v ws=>∃(j:Nat) (cu:List Int) (q':Nat),j≤nd.keys.length∧v=.int .i64 (j:Int)∧q'≤q+j∧Hid (CB cu q')∧Hid (cu.length=n)∧Hid (((nd.keys.drop j)).foldl bump cu=nd.keys.foldl bump cur)∧Hid (Arr ws cb 3 (I64 cu))∧Hid (Below gb w ws)∧w5.grownBy ws (some cb)) (fun v _=>nd.keys.length - (intOf v).toNat)
   case atStart=>exact⟨0,cur,q,Nat.zero_le _,rfl,by omega,hcb1,hcl,rfl,hC5,hB5,World.grownBy.refl _ _⟩
   case round=>
    obtain⟨j,cu,q',hj,rfl,hq',hcb2,hcl2,hfk,hCs,hBs,hgs⟩:=hrel
    by_cases hjl:j=nd.keys.length
    ·have hjl':¬(j:Int)<nd.keys.length:=by omega
     have he:cu=nd.keys.foldl bump cur:=by
      have:=hfk.out
      rw [List.drop_of_length_le (by omega)] at this
      exact this
     subst he
     obtain⟨q6,hq6⟩:∃x,x=q':=⟨_,rfl⟩
     subst hq6
     obtain⟨w6,hw6⟩:∃w:World,w=wr:=⟨_,rfl⟩
     subst hw6
     have hg6:=Lib.hid hgs
     have hcb6:=hcb2
     have hcl6:=hcl2
     have hC6:=hCs
     have hB6:=hBs
     have hI6:=Lib.hid (hI5.out.grown hgs (fun ad e h=>by have:=HIB.out ad e;have:=Option.some.inj h;have:=HG.out.2.1;have:=HGB.out;omega))
     have n4:=(hND.out.grown hgs (by intro e;have e':nb=cb:=Option.some.inj e;omega)).cell' (i:=4) rfl
     clear hfk hcb2 hcl2 hCs hBs hgs n3
     go_wp2_with (fail)
     go_loopw [45] (fun v ws=>∃(j:Nat) (cu:List Int) (q':Nat),j≤nd.items.length∧v=.int .i64 (j:Int)∧q'≤q6+j∧Hid (CB cu q')∧Hid (cu.length=n)∧Hid (((nd.items.drop j)).foldl bump cu=nd.items.foldl bump (nd.keys.foldl bump cur))∧Hid (Arr ws cb 3 (I64 cu))∧Hid (Below gb w ws)∧w6.grownBy ws (some cb)) (fun v _=>nd.items.length - (intOf v).toNat)
     case atStart=>exact⟨0,_,q6,Nat.zero_le _,rfl,by omega,hcb6,hcl6,rfl,hC6,hB6,World.grownBy.refl _ _⟩
     case round=>
      obtain⟨j,cu,q',hj,rfl,hq',hcb2,hcl2,hfk,hCs,hBs,hgs⟩:=hrel
      by_cases hjl:j=nd.items.length
      ·have hjl':¬(j:Int)<nd.items.length:=by omega
       have he:cu=nd.items.foldl bump (nd.keys.foldl bump cur):=by
        have:=hfk.out
        rw [List.drop_of_length_le (by omega)] at this
        exact this
       subst he
       have hgo:=Lib.hid (grown_trans hg5.out (grown_trans hg6.out hgs))
       go_wp2_with (fail)
       go_roundw
       case rel=>exact⟨i+1,_,q',by omega,i64e (by omega),by omega,hcb2,hcl2,hfi,hCs,hBs,hgo.out⟩
       case measure=>simp [intOf];omega
      ·have hjl':(j:Int)<nd.items.length:=by omega
       obtain⟨x,hx⟩:∃x,nd.items[j]? = some x:=⟨_,List.getElem?_eq_getElem (by omega)⟩
       obtain⟨ad,rfl,hc⟩:=(hI6.out.grown hgs (fun ad e h=>by have:=HIB.out ad e;have:=Option.some.inj h;have:=HG.out.2.1;have:=HGB.out;omega)).at_ (I64_get hx)
       have hxr:=hrf.out x (by unfold refs;exact List.mem_append.2 (.inr (List.mem_of_getElem? hx)))
       obtain⟨kx,rfl⟩:∃kx:Nat,x=(kx:Int):=⟨x.toNat,by omega⟩
       have hkn:(kx:Int)<n:=by have:=HN.out;omega
       have p0:=hCs.out.cell' (I64_getD (l:=cu) (k:=kx) (by have:=hcl2.out;omega))
       have pf:=hCs.out.frozen kx
       obtain⟨hv1,hv2⟩:=hcb2.out kx
       have hCt:Hid (Arr (wr.setCell ⟨cb,kx,none⟩ (.int .i64 (cu.getD kx 0+1))) cb 3 (I64 (bump cu (kx:Int)))):=by
        have h:=hCs.out.store kx (.int .i64 (cu.getD kx 0+1))
        rw [I64_set] at h
        exact h
       have hgt:=Lib.hid (grown_trans hgs (grown_set wr ⟨cb,kx,none⟩ (.int .i64 (cu.getD kx 0+1))))
       have hBt:=Lib.hid (hBs.out.setCell (p:=⟨cb,kx,none⟩) (show gb≤cb by omega) (.int .i64 (cu.getD kx 0+1)))
       have hfk2:Hid ((nd.items.drop (j+1)).foldl bump (bump cu (kx:Int))=nd.items.foldl bump (nd.keys.foldl bump cur)):=by
        have:=hfk.out
        rw [drop_cons_at hx,List.foldl_cons] at this
        exact this
       have hcl3:Hid ((bump cu (kx:Int)).length=n):=by rw [bump_len];exact hcl2.out
       have hcb3:=Lib.hid (hcb2.out.bump (kx:Int))
       clear hfk hx hxr hCs
       generalize cu.getD kx 0=vx at *
       go_wp2_with (fail)
       go_roundw
       case rel=>exact⟨j+1,bump cu (kx:Int),q'+1,by omega,i64e (by omega),by omega,hcb3,hcl3,hfk2,hCt,hBt,hgt.out⟩
       case measure=>simp [intOf];omega
    ·have hjl':(j:Int)<nd.keys.length:=by omega
     obtain⟨x,hx⟩:∃x,nd.keys[j]? = some x:=⟨_,List.getElem?_eq_getElem (by omega)⟩
     obtain⟨ad,rfl,hc⟩:=(hK5.out.grown hgs (fun ad e h=>by have:=HKB.out ad e;have:=Option.some.inj h;have:=HG.out.2.1;have:=HGB.out;omega)).at_ (I64_get hx)
     have hxr:=hrf.out x (by unfold refs;exact List.mem_append.2 (.inl (List.mem_of_getElem? hx)))
     obtain⟨kx,rfl⟩:∃kx:Nat,x=(kx:Int):=⟨x.toNat,by omega⟩
     have hkn:(kx:Int)<n:=by have:=HN.out;omega
     have p0:=hCs.out.cell' (I64_getD (l:=cu) (k:=kx) (by have:=hcl2.out;omega))
     have pf:=hCs.out.frozen kx
     obtain⟨hv1,hv2⟩:=hcb2.out kx
     have hCt:Hid (Arr (wr.setCell ⟨cb,kx,none⟩ (.int .i64 (cu.getD kx 0+1))) cb 3 (I64 (bump cu (kx:Int)))):=by
      have h:=hCs.out.store kx (.int .i64 (cu.getD kx 0+1))
      rw [I64_set] at h
      exact h
     have hgt:=Lib.hid (grown_trans hgs (grown_set wr ⟨cb,kx,none⟩ (.int .i64 (cu.getD kx 0+1))))
     have hBt:=Lib.hid (hBs.out.setCell (p:=⟨cb,kx,none⟩) (show gb≤cb by omega) (.int .i64 (cu.getD kx 0+1)))
     have hfk2:Hid ((nd.keys.drop (j+1)).foldl bump (bump cu (kx:Int))=nd.keys.foldl bump cur):=by
      have:=hfk.out
      rw [drop_cons_at hx,List.foldl_cons] at this
      exact this
     have hcl3:Hid ((bump cu (kx:Int)).length=n):=by rw [bump_len];exact hcl2.out
     have hcb3:=Lib.hid (hcb2.out.bump (kx:Int))
     clear hfk hx hxr hCs
     generalize cu.getD kx 0=vx at *
     go_wp2_with (fail)
     go_roundw
     case rel=>exact⟨j+1,bump cu (kx:Int),q'+1,by omega,i64e (by omega),by omega,hcb3,hcl3,hfk2,hCt,hBt,hgt.out⟩
     case measure=>simp [intOf];omega
end Go.Proofs.YtgbkbgiogdhnaaaGreatDoor
