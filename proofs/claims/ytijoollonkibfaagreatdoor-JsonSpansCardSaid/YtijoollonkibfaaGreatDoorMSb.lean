/- The walks of span's inKeys and of the closure in it. -/
import Derived.Test.YtijoollonkibfaaGreatDoorMGb
import Derived.Test.YtijoollonkibfaaGreatDoorMGh
import Derived.Maps.OwnOps
import Derived.Maps.AppendAt
import Derived.Maps.GroupsBeside
import Derived.Test.YtijoollonkibfaaGreatDoorMSa
set_option linter.unusedVariables false
set_option linter.unusedSimpArgs false
set_option linter.defProp false
set_option linter.constructorNameAsVariable false
namespace Go.Proofs.YtijoollonkibfaaGreatDoor
open Go.RowKit
structure VEs (w:World) (B g o c xb gb vb mb:Nat) (nodes:List GNode) (root:Int):Prop where
 gr:GRd w B g o nodes
 bx:Arr w xb 78 [.slice (some ⟨mb,0,none⟩) nodes.length nodes.length]
 bg:Arr w gb 25 [.slice (some ⟨g,o,none⟩) nodes.length c,.int .i64 root]
 bv:Arr w vb 70 [.func (.func 55) #[] #[.pointer (some ⟨xb,0,none⟩),.pointer (some ⟨gb,0,none⟩),.pointer (some ⟨vb,0,none⟩)]]
 lo:B≤mb
 nx:xb≠mb
 ng:gb≠mb
 nv:vb≠mb
theorem VEs.grown {w w':World} {B g o c xb gb vb mb:Nat} {nodes:List GNode} {root:Int} (h:VEs w B g o c xb gb vb mb nodes root) (hb:w.grownBy w' (some mb)):VEs w' B g o c xb gb vb mb nodes root:=
 ⟨h.gr.grown hb h.lo,h.bx.grown hb (by intro e;exact h.nx (Option.some.inj e)),h.bg.grown hb (by intro e;exact h.ng (Option.some.inj e)),h.bv.grown hb (by intro e;exact h.nv (Option.some.inj e)),h.lo,h.nx,h.ng,h.nv⟩
set_option maxRecDepth 20000 in
set_option maxHeartbeats 4000000 in
theorem svisit_any {B g o c xb gb vb mb:Nat} {nodes:List GNode} {root:Int} (hI:Idx nodes) (hL:NL 65536 nodes) (f:Nat):∀(k:Nat) (m m':List Bool) (w:World),visitV nodes f (k:Int) m=some m'→m.length=nodes.length →
  VEs w B g o c xb gb vb mb nodes root→Arr w mb 4 (Bs m)→Calls Tryz.prog 55 #[.int .i64 (k:Int),.pointer (some ⟨xb,0,none⟩),.pointer (some ⟨gb,0,none⟩),.pointer (some ⟨vb,0,none⟩)] w (VisC w mb m'):=by
 induction f with
 | zero=>intro k m m' w h;cases h
 | succ f ih=>
  intro k m m' w h hl hE hM
  rw [visitV] at h
  split at h
  ·rename_i hin
   obtain⟨_,hk2⟩:=inB_iff.1 hin
   have hk:k<nodes.length:=by omega
   have hkl:(k:Int)<nodes.length:=by omega
   have hk0:(0:Int)≤k:=by omega
   rw [Int.toNat_natCast] at h
   have x0:=hE.bx.cell' (i:=0) rfl
   have m0:=hM.cell' (Bs_get (m:=m) (k:=k) (by omega))
   by_cases hm:m.getD k false=true
   ·rw [if_pos hm] at h
    obtain rfl:=Option.some.inj h
    rw [hm] at m0
    go_enter Tryz.func55,Tryz.ntmps55
    go_wp2_with (fail)
    go_end0
    exact⟨rfl,World.grownBy.refl _ _,hM⟩
   ·rw [if_neg hm] at h
    have hm':m.getD k false=false:=by simpa using hm
    rw [hm'] at m0
    have f0:=hM.frozen k
    have hM1:Hid (Arr (w.setCell ⟨mb,k,none⟩ (.bool true)) mb 4 (Bs (m.set k true))):=by
     have:=hM.store k (.bool true)
     rw [Bs_set] at this
     exact this
    have hg1:=grown_set w ⟨mb,k,none⟩ (.bool true)
    have hE1:=hE.grown hg1
    have HG:=Lib.hid hg1
    go_enter Tryz.func55,Tryz.ntmps55
    go_upto_region 2 with(fail)
    clear m0 f0 x0 hm hm' hg1
    generalize w.setCell ⟨mb,k,none⟩ (.bool true)=w1 at *
    have hlm:(m.set k true).length=nodes.length:=by rw [List.length_set];exact hl
    obtain⟨K,ck,I,ci,c0,c1,c2,c3,c4,⟨hK,hKb⟩,hI',hIb⟩:=hE1.gr.of_at hk
    obtain⟨hKl,hIl⟩:=hL k hk
    have g0:=hE1.bg.cell' (i:=0) rfl
    have hrefs:=Lib.hid (hI k hk)
    have HK:=Lib.hid hK
    have HI:=Lib.hid hI'
    have HKB:=Lib.hid hKb
    have HIB:=Lib.hid hIb
    clear hKb hIb hK hI' c0 c1 c2 hin hk2
    generalize hnd:ndAt nodes k=nd at *
    generalize hmk:m.set k true=m0 at *
    cases hr:runG (visitV nodes f) nd.keys m0 with
    | none=>rw [hr] at h;cases h
    | some mk=>
     rw [hr] at h
     have h2:runG (visitV nodes f) nd.items mk=some m':=h
     have HR:=Lib.hid hr
     have HH:=Lib.hid h2
     have HLM:=Lib.hid hlm
     clear h h2 hr hnd hmk hl hlm
     go_wp2_with (fail)
     go_loopw [23] (fun v wr=>∃(j:Nat) (m1:List Bool),j≤nd.keys.length∧v=.int .i64 (j:Int)∧Hid (runG (visitV nodes f) (nd.keys.drop j) m1=some mk)∧Hid (m1.length=nodes.length)∧Hid (Arr wr mb 4 (Bs m1))∧w1.grownBy wr (some mb)) (fun v _=>nd.keys.length - (intOf v).toNat)
     case atStart=>exact⟨0,m0,Nat.zero_le _,rfl,HR,HLM,hM1,World.grownBy.refl _ _⟩
     case round=>
      obtain⟨j,m1,hj,rfl,hrun,hlm1,hMr,hgr⟩:=hrel
      have hEr:=hE1.grown hgr
      by_cases hjl:j=nd.keys.length
      ·have hjl':¬(j:Int)<nd.keys.length:=by omega
       have hmk:m1=mk:=by
        have:=hrun.out
        rw [List.drop_of_length_le (by omega)] at this
        exact Option.some.inj this
       subst hmk
       have g0':=hEr.bg.cell' (i:=0) rfl
       have hk4:wr.cell? ⟨g,o+k*5+4,none⟩=some (.slice I nd.items.length ci):=hgr.cell c4 (by intro e;have e':g=mb:=Option.some.inj e;have:=hE1.gr.1;have:=hE1.lo;omega)
       have HI2:=Lib.hid (HI.out.grown hgr (fun ad e h=>by have:=HIB.out ad e;have:=Option.some.inj h;have:=hE1.lo;omega))
       clear hrun
       obtain⟨wo,hwo⟩:∃wo:World,wo=wr:=⟨_,rfl⟩
       subst hwo
       go_wp2_with (fail)
       go_loopw [38] (fun v wr=>∃(j:Nat) (m1:List Bool),j≤nd.items.length∧v=.int .i64 (j:Int)∧Hid (runG (visitV nodes f) (nd.items.drop j) m1=some m')∧Hid (m1.length=nodes.length)∧Hid (Arr wr mb 4 (Bs m1))∧wo.grownBy wr (some mb)) (fun v _=>nd.items.length - (intOf v).toNat)
       case atStart=>exact⟨0,m1,Nat.zero_le _,rfl,HH,hlm1,hMr,World.grownBy.refl _ _⟩
       case round=>
        obtain⟨i,m3,hi,rfl,hrun,hlm3,hMs,hgs⟩:=hrel
        have hEs:=hEr.grown hgs
        by_cases hil:i=nd.items.length
        ·have hil':¬(i:Int)<nd.items.length:=by omega
         have hm3:m3=m':=by
          have:=hrun.out
          rw [List.drop_of_length_le (by omega)] at this
          exact Option.some.inj this
         subst hm3
         go_wp2_with (fail)
         go_end0
         exact⟨rfl,grown_trans HG.out (grown_trans hgr hgs),hMs⟩
        ·have hil':(i:Int)<nd.items.length:=by omega
         obtain⟨x,hx⟩:∃x,nd.items[i]? = some x:=⟨_,List.getElem?_eq_getElem (by omega)⟩
         obtain⟨ad,rfl,hc⟩:=(HI2.out.grown hgs (fun ad e h=>by have:=HIB.out ad e;have:=Option.some.inj h;have:=hE1.lo;omega)).at_ (I64_get hx)
         have hxr:=hrefs.out x (by unfold refs;exact List.mem_append.2 (.inr (List.mem_of_getElem? hx)))
         obtain⟨kx,rfl⟩:∃kx:Nat,x=(kx:Int):=⟨x.toNat,by omega⟩
         have hrun':=hrun.out
         rw [drop_cons_at hx,runG] at hrun'
         cases hv:visitV nodes f (kx:Int) m3 with
         | none=>rw [hv] at hrun';cases hrun'
         | some m2=>
          rw [hv] at hrun'
          have HRUN:=Lib.hid hrun'
          have D:=Lib.hid (ih kx m3 m2 wr hv hlm3.out hEs hMs.out)
          have HL2:=Lib.hid (visitV_len hv hlm3.out)
          have v0:=hEs.bv.cell' (i:=0) rfl
          clear hrun hrun' hv hxr hrefs hx
          go_wp2_with (go_at_call 55;((with_reducible refine D.out.mono ?_));rintro e w2 ⟨rfl,hg2,hM2⟩)
          go_roundw
          case rel=>exact⟨i+1,m2,by omega,i64e (by omega),HRUN,HL2,hM2,grown_trans hgs hg2⟩
          case measure=>simp [intOf];omega
      ·have hjl':(j:Int)<nd.keys.length:=by omega
       obtain⟨x,hx⟩:∃x,nd.keys[j]? = some x:=⟨_,List.getElem?_eq_getElem (by omega)⟩
       obtain⟨ad,rfl,hc⟩:=(HK.out.grown hgr (fun ad e h=>by have:=HKB.out ad e;have:=Option.some.inj h;have:=hE1.lo;omega)).at_ (I64_get hx)
       have hxr:=hrefs.out x (by unfold refs;exact List.mem_append.2 (.inl (List.mem_of_getElem? hx)))
       obtain⟨kx,rfl⟩:∃kx:Nat,x=(kx:Int):=⟨x.toNat,by omega⟩
       have hrun':=hrun.out
       rw [drop_cons_at hx,runG] at hrun'
       cases hv:visitV nodes f (kx:Int) m1 with
       | none=>rw [hv] at hrun';cases hrun'
       | some m2=>
        rw [hv] at hrun'
        have HRUN:=Lib.hid hrun'
        have D:=Lib.hid (ih kx m1 m2 wr hv hlm1.out hEr hMr.out)
        have HL2:=Lib.hid (visitV_len hv hlm1.out)
        have v0:=hEr.bv.cell' (i:=0) rfl
        clear hrun hrun' hv hxr hrefs hx
        go_wp2_with (go_at_call 55;((with_reducible refine D.out.mono ?_));rintro e w2 ⟨rfl,hg2,hM2⟩)
        go_roundw
        case rel=>exact⟨j+1,m2,by omega,i64e (by omega),HRUN,HL2,hM2,grown_trans hgr hg2⟩
        case measure=>simp [intOf];omega
  ·cases h
set_option maxRecDepth 20000 in
set_option maxHeartbeats 8000000 in
theorem sinKeys_any {B g o c:Nat} {nodes:List GNode} {root:Int} (hI:Idx nodes) (hL:NL 65536 nodes) (hN:nodes.length≤65536) (w:World) (hG:GRd w B g o nodes) :
  Calls Tryz.prog 33 #[.agg #[.slice (some ⟨g,o,none⟩) nodes.length c,.int .i64 root]] w fun e w'=>∃mb,e=.returned (.slice (some ⟨mb,0,none⟩) nodes.length nodes.length)∧w.heap.size≤mb∧Below w.heap.size w w'∧Hid (Arr w' mb 4 (Bs (inKeysV nodes))):=by
 have h1:Hid (Arr (w.alloc (.cells #[.slice (some ⟨g,o,none⟩) nodes.length c,.int .i64 root] 25)) w.heap.size 25 [.slice (some ⟨g,o,none⟩) nodes.length c,.int .i64 root]):=Arr.new w 25 [.slice (some ⟨g,o,none⟩) nodes.length c,.int .i64 root]
 have hB1:Hid (Below w.heap.size w (w.alloc (.cells #[.slice (some ⟨g,o,none⟩) nodes.length c,.int .i64 root] 25))):=(Below.refl _ _).alloc (Nat.le_refl _) _
 have HG:=Lib.hid hG
 have hI':=Lib.hid hI
 have hmf:∀(fn:Fn) (first cap:Array Value) (w:World),(Instr.makeFunc fn first cap).run Tryz.prog w=.ok (.func fn first cap) w:=fun _ _ _ _=>rfl
 clear hG
 go_enter Tryz.func33,Tryz.ntmps33
 go_upto_region 1 with(fail)
 generalize w.alloc (.cells #[.slice (some ⟨g,o,none⟩) nodes.length c,.int .i64 root] 25)=W at *
 obtain⟨n,hn⟩:∃n,nodes.length=n:=⟨_,rfl⟩
 obtain⟨gb,hgb⟩:∃b,w.heap.size=b:=⟨_,rfl⟩
 have hgbl:=h1.out.lt
 rw [hgb] at h1 hgbl hB1 ⊢
 rw [hn] at h1 hN ⊢
 have x0:=h1.out.cell' (i:=0) rfl
 have HN:=Lib.hid hn
 have HGB:=Lib.hid hgb
 clear hn hgb
 go_upto_region 2 with(at_make;go_loud (refine wpList_mk rfl _ _ 78 rfl 4 _ _ Tryz.underlying78 infoBool rfl _ _ _ _ rfl rfl n n (by omega) (by omega) (by omega) (by omega) (by unfold maxLen;omega) ?_;intro mb w2 hmb hM hb2 hz2))
 have hX2:Hid (Arr (w2.alloc (.cells #[.slice (some ⟨mb,0,none⟩) n n] 78)) w2.heap.size 78 [.slice (some ⟨mb,0,none⟩) n n]):=Arr.new w2 _ _
 have hb3:Below w2.heap.size w2 (w2.alloc (.cells #[.slice (some ⟨mb,0,none⟩) n n] 78)):=(Below.refl _ _).alloc (Nat.le_refl _) _
 have hM3:Hid (Arr (w2.alloc (.cells #[.slice (some ⟨mb,0,none⟩) n n] 78)) mb 4 (Bs (noMarks n))):=by rw [←Bs_rep];exact hM.keep hb3
 have l1:gb<mb:=by have:=hmb.out;omega
 have l2:mb<w2.heap.size:=hM.lt
 have hB3:Hid (Below gb w (w2.alloc (.cells #[.slice (some ⟨mb,0,none⟩) n n] 78))):=(hB1.out.trans (hb2.mono (Nat.le_of_lt hgbl))).trans (hb3.mono (by omega))
 have h3:=Lib.hid ((h1.out.keep hb2).keep hb3)
 clear hM hb2 hz2 hB1 h1 hb3 x0
 generalize (w2.alloc (.cells #[.slice (some ⟨mb,0,none⟩) n n] 78))=w3 at *
 obtain⟨xb,hxb⟩:∃b,w2.heap.size=b:=⟨_,rfl⟩
 rw [hxb] at hX2 l2 ⊢
 clear hxb
 have l3:xb<w3.heap.size:=hX2.out.lt
 have hV4:Hid (Arr (w3.alloc (.cells #[.nilFunc] 70)) w3.heap.size 70 [.nilFunc]):=Arr.new w3 _ _
 have hb4:Below w3.heap.size w3 (w3.alloc (.cells #[.nilFunc] 70)):=(Below.refl _ _).alloc (Nat.le_refl _) _
 have hM4:=Lib.hid (hM3.out.keep hb4)
 have hX4:=Lib.hid (hX2.out.keep hb4)
 have hg4:=Lib.hid (h3.out.keep hb4)
 have hB4:=Lib.hid (hB3.out.trans (hb4.mono (by omega)))
 go_upto_region 3 with(fail)
 clear hM3 hX2 h3 hB3 hb4
 generalize (w3.alloc (.cells #[.nilFunc] 70))=w4 at *
 obtain⟨vb,hvb⟩:∃b,w3.heap.size=b:=⟨_,rfl⟩
 rw [hvb] at hV4 l3 ⊢
 clear hvb
 have z0:=hV4.out.cell' (i:=0) rfl
 have zf:=hV4.out.frozen 0
 have hV5:Hid (Arr (w4.setCell ⟨vb,0,none⟩ (.func (.func 55) #[] #[.pointer (some ⟨xb,0,none⟩),.pointer (some ⟨gb,0,none⟩),.pointer (some ⟨vb,0,none⟩)])) vb 70 [(.func (.func 55) #[] #[.pointer (some ⟨xb,0,none⟩),.pointer (some ⟨gb,0,none⟩),.pointer (some ⟨vb,0,none⟩)])]):=hV4.out.store 0 _
 have hM5:=Lib.hid (hM4.out.far (p:=⟨vb,0,none⟩) (show mb≠vb by omega) (.func (.func 55) #[] #[.pointer (some ⟨xb,0,none⟩),.pointer (some ⟨gb,0,none⟩),.pointer (some ⟨vb,0,none⟩)]))
 have hX5:=Lib.hid (hX4.out.far (p:=⟨vb,0,none⟩) (show xb≠vb by omega) (.func (.func 55) #[] #[.pointer (some ⟨xb,0,none⟩),.pointer (some ⟨gb,0,none⟩),.pointer (some ⟨vb,0,none⟩)]))
 have hg5:=Lib.hid (hg4.out.far (p:=⟨vb,0,none⟩) (show gb≠vb by omega) (.func (.func 55) #[] #[.pointer (some ⟨xb,0,none⟩),.pointer (some ⟨gb,0,none⟩),.pointer (some ⟨vb,0,none⟩)]))
 have hB5:=Lib.hid (hB4.out.setCell (p:=⟨vb,0,none⟩) (by show gb≤vb;omega) (.func (.func 55) #[] #[.pointer (some ⟨xb,0,none⟩),.pointer (some ⟨gb,0,none⟩),.pointer (some ⟨vb,0,none⟩)]))
 go_upto_region 4 with(fail)
 clear z0 zf hV4 hM4 hX4 hg4 hB4
 generalize (w4.setCell ⟨vb,0,none⟩ (.func (.func 55) #[] #[.pointer (some ⟨xb,0,none⟩),.pointer (some ⟨gb,0,none⟩),.pointer (some ⟨vb,0,none⟩)]))=w5 at *
 have hE5:Hid (VEs w5 B g o c xb gb vb mb nodes root):=⟨HG.out.below hB5.out (by have:=HG.out.2.1;have:=HGB.out;omega),by rw [HN.out];exact hX5.out,by rw [HN.out];exact hg5.out,hV5.out,by have:=HG.out.2.1;have:=HGB.out;omega,by omega,by omega,by omega⟩
 have y0:=hg5.out.cell' (i:=0) rfl
 have HFI:Hid (((nodes.drop 0).flatMap GNode.keys).foldl (markK nodes) (noMarks n)=inKeysV nodes):=by
  rw [List.drop_zero,←HN.out];exact rfl
 have hlen0:Hid ((noMarks n).length=n):=by unfold noMarks;exact List.length_replicate
 clear hX5 hg5 hV5
 go_wp2_with (fail)
 go_loopw [17] (fun v wr=>∃(i:Nat) (cur:List Bool),i≤n∧v=.int .i64 (i:Int)∧Hid (cur.length=n)∧Hid (((nodes.drop i).flatMap GNode.keys).foldl (markK nodes) cur=inKeysV nodes)∧Hid (Arr wr mb 4 (Bs cur))∧Hid (Below gb w wr)∧w5.grownBy wr (some mb)) (fun v _=>n - (intOf v).toNat)
 case atStart=>exact⟨0,_,Nat.zero_le _,rfl,hlen0,HFI,hM5,hB5,World.grownBy.refl _ _⟩
 case round=>
  obtain⟨i,cur,hi,rfl,hcl,hfi,hCr,hBr,hgr⟩:=hrel
  have hEr:=Lib.hid (hE5.out.grown hgr)
  by_cases hin:i=n
  ·have hin':¬(i:Int)<n:=by omega
   have he:cur=inKeysV nodes:=by
    have:=hfi.out
    rw [List.drop_of_length_le (by have:=HN.out;omega)] at this
    exact this
   subst he
   have x0:=hEr.out.bx.cell' (i:=0) rfl
   rw [HN.out] at x0
   go_wp2_with (fail)
   go_ret
   exact⟨mb,by rw [HN.out];rfl,by have:=HGB.out;omega,by rw [HGB.out];exact hBr.out,hCr⟩
  ·have hin':(i:Int)<n:=by omega
   have hi2:i<nodes.length:=by have:=HN.out;omega
   have hGr:=(HG.out.below hBr.out (by have:=HG.out.2.1;have:=HGB.out;omega)).of_at hi2
   obtain⟨K,ck,I,ci,c0,c1,c2,c3,c4,⟨hK,hKb⟩,_⟩:=hGr
   have k0:(0:Int)≤i:=by omega
   have hcbl:=hCr.out.lt
   have hND:Hid (Arr (wr.alloc (.cells #[.int .i64 (ndAt nodes i).kind,.string (mks (ndAt nodes i).text),.bool (ndAt nodes i).ord,.slice K (ndAt nodes i).keys.length ck,.slice I (ndAt nodes i).items.length ci] 40)) wr.heap.size 40 [.int .i64 (ndAt nodes i).kind,.string (mks (ndAt nodes i).text),.bool (ndAt nodes i).ord,.slice K (ndAt nodes i).keys.length ck,.slice I (ndAt nodes i).items.length ci]):=Arr.new wr _ _
   have hbn:Hid (Below wr.heap.size wr (wr.alloc (.cells #[.int .i64 (ndAt nodes i).kind,.string (mks (ndAt nodes i).text),.bool (ndAt nodes i).ord,.slice K (ndAt nodes i).keys.length ck,.slice I (ndAt nodes i).items.length ci] 40))):=(Below.refl _ _).alloc (Nat.le_refl _) _
   have HK:=Lib.hid hK
   have HKB:=Lib.hid hKb
   clear hK hKb
   go_upto_region 7 with(fail)
   clear c0 c1 c2 c3 c4
   generalize (wr.alloc (.cells #[.int .i64 (ndAt nodes i).kind,.string (mks (ndAt nodes i).text),.bool (ndAt nodes i).ord,.slice K (ndAt nodes i).keys.length ck,.slice I (ndAt nodes i).items.length ci] 40))=w6 at *
   have hB6:Hid (Below gb w w6):=hBr.out.trans (hbn.out.mono (by have:=hBr.out.size;have:=HGB.out;omega))
   have hC6:=Lib.hid (hCr.out.keep hbn.out)
   have hK6:=Lib.hid (HK.out.keep hbn.out)
   have hg6:Hid (w5.grownBy w6 (some mb)):=grown_trans hgr ⟨hbn.out.os,hbn.out.tape,hbn.out.output,hbn.out.size,fun j hj _=>hbn.out.block j hj⟩
   obtain⟨nb,hnb⟩:∃b,wr.heap.size=b:=⟨_,rfl⟩
   rw [hnb] at hND hcbl ⊢
   obtain⟨hLk,_⟩:=hL i hi2
   have hrf:=Lib.hid (hI'.out i hi2)
   rw [keys_drop hi2,List.foldl_append] at hfi
   clear hnb hBr hCr HK hbn hgr hEr
   generalize ndAt nodes i=nd at *
   have n3:=hND.out.cell' (i:=3) rfl
   go_wp2_with (fail)
   go_loopw [24] (fun v ws=>∃(j:Nat) (cu:List Bool),j≤nd.keys.length∧v=.int .i64 (j:Int)∧Hid (cu.length=n)∧Hid (((nd.keys.drop j)).foldl (markK nodes) cu=nd.keys.foldl (markK nodes) cur)∧Hid (Arr ws mb 4 (Bs cu))∧Hid (Below gb w ws)∧w6.grownBy ws (some mb)) (fun v _=>nd.keys.length - (intOf v).toNat)
   case atStart=>exact⟨0,cur,Nat.zero_le _,rfl,hcl,rfl,hC6,hB6,World.grownBy.refl _ _⟩
   case round=>
    obtain⟨j,cu,hj,rfl,hcl2,hfk,hCs,hBs,hgs⟩:=hrel
    by_cases hjl:j=nd.keys.length
    ·have hjl':¬(j:Int)<nd.keys.length:=by omega
     have he:cu=nd.keys.foldl (markK nodes) cur:=by
      have:=hfk.out
      rw [List.drop_of_length_le (by omega)] at this
      exact this
     subst he
     have hgo:=Lib.hid (grown_trans hg6.out hgs)
     go_wp2_with (fail)
     go_roundw
     case rel=>exact⟨i+1,_,by omega,i64e (by omega),hcl2,hfi,hCs,hBs,hgo.out⟩
     case measure=>simp [intOf];omega
    ·have hjl':(j:Int)<nd.keys.length:=by omega
     obtain⟨x,hx⟩:∃x,nd.keys[j]? = some x:=⟨_,List.getElem?_eq_getElem (by omega)⟩
     obtain⟨ad,rfl,hc⟩:=(hK6.out.grown hgs (fun ad e h=>by have:=HKB.out ad e;have:=Option.some.inj h;have:=HG.out.2.1;have:=HGB.out;omega)).at_ (I64_get hx)
     have hxr:=hrf.out x (by unfold refs;exact List.mem_append.2 (.inl (List.mem_of_getElem? hx)))
     obtain⟨kx,rfl⟩:∃kx:Nat,x=(kx:Int):=⟨x.toNat,by omega⟩
     have hEs:=hE5.out.grown (grown_trans hg6.out hgs)
     have hlc:cu.length=nodes.length:=by have:=hcl2.out;have:=HN.out;omega
     have hrv:=reachedV_ok hI (at_:=(kx:Int)) (m:=cu) hxr hlc
     have D':=Lib.hid (svisit_any hI hL (nodes.length+1) kx cu (reachedV nodes (kx:Int) cu) wr hrv.1 hlc hEs hCs.out)
     have v0:=hEs.bv.cell' (i:=0) rfl
     have hfk2:Hid ((nd.keys.drop (j+1)).foldl (markK nodes) (reachedV nodes (kx:Int) cu)=nd.keys.foldl (markK nodes) cur):=by
      have:=hfk.out
      rw [drop_cons_at hx,List.foldl_cons] at this
      exact this
     have hcl3:Hid ((reachedV nodes (kx:Int) cu).length=n):=by
      show _=n
      rw [hrv.2.len];exact hcl2.out
     clear hfk hx hxr hEs hrv hlc
     go_wp2_with (go_at_call 55;((with_reducible refine D'.out.mono ?_));rintro e w7 ⟨rfl,hg7,hM7⟩)
     go_roundw
     case rel=>exact⟨j+1,reachedV nodes (kx:Int) cu,by omega,i64e (by omega),hcl3,hfk2,hM7,below_row hBs.out hg7 (by have:=HGB.out;have:=hBs.out.size;omega) (by omega),grown_trans hgs hg7⟩
     case measure=>simp [intOf];omega
end Go.Proofs.YtijoollonkibfaaGreatDoor
namespace Go.Proofs.YtijoollonkibfaaGreatDoor
open Go.RowKit Go.Maps
open Go.ChangeShapes
structure SpC (w:World) (g p:Nat) (x:JSpan):Prop where
 c0:w.cell? ⟨g,p,none⟩=some (.int .i64 x.node)
 c1:w.cell? ⟨g,p+1,none⟩=some (.int .i64 x.parent)
 c2:w.cell? ⟨g,p+2,none⟩=some (.int .i64 x.entry)
 c3:w.cell? ⟨g,p+3,none⟩=some (.int .i64 x.from_)
 c4:w.cell? ⟨g,p+4,none⟩=some (.int .i64 x.to_)
 c5:w.cell? ⟨g,p+5,none⟩=some (.int .i64 x.kf)
 c6:w.cell? ⟨g,p+6,none⟩=some (.int .i64 x.kt)
 c7:w.cell? ⟨g,p+7,none⟩=some (.bool x.alias_)
 c8:w.cell? ⟨g,p+8,none⟩=some (.bool x.whole)
def SRd (w:World) (B g o:Nat) (spans:List JSpan):Prop:=g<B∧B≤w.heap.size∧∀i x,spans[i]? = some x→SpC w g (o+i*9) x
theorem SpC.same {w w':World} {g p:Nat} {x:JSpan} (h:SpC w g p x) (hk:∀a:Addr,a.block=g→∀u,w.cell? a=some u→w'.cell? a=some u):SpC w' g p x:=
 ⟨hk _ rfl _ h.c0,hk _ rfl _ h.c1,hk _ rfl _ h.c2,hk _ rfl _ h.c3,hk _ rfl _ h.c4,hk _ rfl _ h.c5,hk _ rfl _ h.c6,hk _ rfl _ h.c7,hk _ rfl _ h.c8⟩
theorem SRd.below {w w':World} {B B' g o:Nat} {spans:List JSpan} (h:SRd w B g o spans) (hb:Below B' w w') (hB:B≤B'):SRd w' B g o spans:=
 ⟨h.1,Nat.le_trans h.2.1 hb.size,fun i x hi=>(h.2.2 i x hi).same fun a ha u hu=>by rw [hb.cell (by have:=h.1;omega)];exact hu⟩
theorem SRd.grown {w w':World} {B g o b:Nat} {spans:List JSpan} (h:SRd w B g o spans) (hb:w.grownBy w' (some b)) (hB:B≤b):SRd w' B g o spans:=
 ⟨h.1,Nat.le_trans h.2.1 hb.size,fun i x hi=>(h.2.2 i x hi).same fun a ha u hu=>hb.cell hu (by intro e;have:=Option.some.inj e;have:=h.1;omega)⟩
theorem SRd.up {w:World} {B B' g o:Nat} {spans:List JSpan} (h:SRd w B g o spans) (hB:B≤B') (hw:B'≤w.heap.size):SRd w B' g o spans:=⟨Nat.lt_of_lt_of_le h.1 hB,hw,h.2.2⟩
theorem SRd.of_at {w:World} {B g o:Nat} {spans:List JSpan} (h:SRd w B g o spans) {i:Nat} (hi:i<spans.length):SpC w g (o+i*9) (spAt spans i):=h.2.2 i _ (spAt_get hi)
def KidD {H:Type} (D:DataW H) (spans:List JSpan) (k:Nat):Prop:=IsMap D∧∀p:Int,itsOf (D.atKey (.int .i64 p) .nil)=kidI spans p k
theorem KidD.nil {H:Type} (spans:List JSpan):KidD (.map []:DataW H) spans 0:=⟨isMap_empty,fun _=>rfl⟩
theorem KidD.put {H:Type} {D:DataW H} {spans:List JSpan} {k:Nat} (h:KidD D spans k) (hk:WideAt.IsKeyLit (.int .i64 (spAt spans k).parent)) {w:World} {base:Nat} {e:TypeId} {q:IntKind} {v:Value} {zs:List Int}
  (ho:w.ownsInts base e q v zs) (hz:zs=kidI spans (spAt spans k).parent k ++ [(k:Int)]):KidD (D.put (.int .i64 (spAt spans k).parent) (rowDatum q v zs)) spans (k+1):=by
 refine⟨h.1.put _ _,fun p=>?_⟩
 rw [kidI_succ]
 by_cases hx:(spAt spans k).parent=p
 ·rw [if_pos hx]
  subst hx
  rw [atKey_put_same h.1 hk,itsOf_row ho,hz]
 ·rw [if_neg hx,List.append_nil,atKey_put_other (by intro e;injection e with _ e;exact hx e.symm),h.2 p]
def SpW (spans:List JSpan):Prop:=∀i,i<spans.length→(Lit.int .i64 (spAt spans i).parent).wf=true
theorem under_kids:Tryz.prog.underlying 76=some (.map 3 38):=by kernel_rfl
theorem children_int:Tryz.prog.underlying 3=some (.int .i64):=by kernel_rfl
set_option maxRecDepth 20000 in
set_option maxHeartbeats 8000000 in
theorem children_any {B g o cs:Nat} {spans:List JSpan} (d0 d1 d2 d3 d5:Value) (hW:SpW spans) (hN:spans.length≤65536) (w:World) (hS:SRd w B g o spans) :
  Calls Tryz.prog 32 #[.agg #[d0,d1,d2,d3,.slice (some ⟨g,o,none⟩) spans.length cs,d5]] w fun e w'=>∃(mb:Nat) (D:DataW Unit),e=.returned (.map (some mb))∧w.heap.size≤mb∧Below w.heap.size w w'∧w'.ownsGroups Tryz.prog 3 (mb+1) 3 .i64 mb spans.length D∧KidD D spans spans.length:=by
 have h1:Hid (Arr (w.alloc (.cells #[d0,d1,d2,d3,.slice (some ⟨g,o,none⟩) spans.length cs,d5] 29)) w.heap.size 29 [d0,d1,d2,d3,.slice (some ⟨g,o,none⟩) spans.length cs,d5]):=Arr.new w 29 [d0,d1,d2,d3,.slice (some ⟨g,o,none⟩) spans.length cs,d5]
 have hB1:Hid (Below w.heap.size w (w.alloc (.cells #[d0,d1,d2,d3,.slice (some ⟨g,o,none⟩) spans.length cs,d5] 29))):=(Below.refl _ _).alloc (Nat.le_refl _) _
 have HS:=Lib.hid hS
 have HW:=Lib.hid hW
 have hmm:=@run_makeMap Tryz.prog
 clear hS hW
 go_enter Tryz.func32,Tryz.ntmps32
 go_upto_region 1 with(fail)
 generalize w.alloc (.cells #[d0,d1,d2,d3,.slice (some ⟨g,o,none⟩) spans.length cs,d5] 29)=W at *
 obtain⟨n,hn⟩:∃n,spans.length=n:=⟨_,rfl⟩
 obtain⟨gb,hgb⟩:∃b,w.heap.size=b:=⟨_,rfl⟩
 have hgbl:=h1.out.lt
 rw [hgb] at h1 hgbl hB1 ⊢
 rw [hn] at h1 hN ⊢
 have HN:=Lib.hid hn
 have HGB:=Lib.hid hgb
 clear hn hgb
 obtain⟨mb,hmb⟩:∃b,W.heap.size=b:=⟨_,rfl⟩
 have hM0:Hid (∃D:DataW Unit,(W.alloc (.map #[] 0)).ownsGroups Tryz.prog 3 (mb+1) 3 .i64 mb 0 D∧KidD D spans 0):=by
  rw [←hmb]
  exact⟨_,World.ownsGroups_made _ _ _ _ _,KidD.nil _⟩
 have hb2:Hid (Below W.heap.size W (W.alloc (.map #[] 0))):=(Below.refl _ _).alloc (Nat.le_refl _) _
 go_upto_region 2 with(fail)
 generalize W.alloc (.map #[] 0)=w2 at *
 have hX:=Lib.hid (h1.out.keep hb2.out)
 have x4:=hX.out.cell' (i:=4) rfl
 have hB2:=Lib.hid (hB1.out.trans (hb2.out.mono (Nat.le_of_lt hgbl)))
 have hl2:mb<w2.heap.size:=by
  obtain⟨_,h,_⟩:=hM0.out
  exact groups_lt h
 have HMB:=Lib.hid hmb
 have hgm:gb<mb:=by omega
 clear hmb h1 hB1
 go_upto_region 3 with(fail)
 clear x4
 go_loopw [10] (fun v wr=>∃k:Nat,k≤n∧v=.int .i64 (k:Int)∧Hid (∃D:DataW Unit,wr.ownsGroups Tryz.prog 3 (mb+1) 3 .i64 mb k D∧KidD D spans k)∧Below mb w2 wr) (fun v _=>n - (intOf v).toNat)
 case atStart=>exact⟨0,Nat.zero_le _,rfl,hM0,Below.refl _ _⟩
 case round=>
  obtain⟨k,hk,rfl,hM,hgr⟩:=hrel
  have hBr:=Lib.hid (hB2.out.trans (hgr.mono (by have:=HGB.out;omega)))
  by_cases hkn:k=n
  ·have hk':¬(k:Int)<n:=by omega
   subst hkn
   go_wp2_with (fail)
   go_ret
   obtain⟨D,h2,h3⟩:=hM.out
   exact⟨mb,rfl,by have:=HGB.out;omega,by rw [HGB.out];exact hBr.out,D,by rw [HN.out];exact h2,by rw [HN.out];exact h3⟩
  ·have hk':(k:Int)<n:=by omega
   have hk2:k<spans.length:=by have:=HN.out;omega
   have k0:(0:Int)≤k:=by omega
   obtain⟨s0,s1,s2,s3,s4,s5,s6,s7,s8⟩:=(HS.out.below hBr.out (by have:=HS.out.2.1;have:=HGB.out;omega)).of_at hk2
   have hwf:=HW.out k hk2
   have hpd:Hid (∀{D:DataW Unit},KidD D spans k→WideAt.IsKeyLit (.int .i64 (spAt spans k).parent)→∀{w:World} {v:Value} {zs:List Int},w.ownsInts (mb+1) 3 .i64 v zs→zs=kidI spans (spAt spans k).parent k ++ [(k:Int)]→KidD (D.put (.int .i64 (spAt spans k).parent) (rowDatum .i64 v zs)) spans (k+1)):=fun h1 h2 _ _ _ h3 h4=>h1.put h2 h3 h4
   generalize spAt spans k=sp at *
   have hBx:Hid (Arr (wr.alloc (.cells (spanC sp).toArray 34)) wr.heap.size 34 (spanC sp)):=Arr.new wr _ _
   have hbx:Hid (Below wr.heap.size wr (wr.alloc (.cells (spanC sp).toArray 34))):=(Below.refl _ _).alloc (Nat.le_refl _) _
   unfold spanC at hBx hbx
   go_upto_region 5 with(fail)
   clear s0 s1 s2 s3 s4 s5 s6 s7 s8
   generalize (wr.alloc (.cells #[.int .i64 sp.node,.int .i64 sp.parent,.int .i64 sp.entry,.int .i64 sp.from_,.int .i64 sp.to_,.int .i64 sp.kf,.int .i64 sp.kt,.bool sp.alias_,.bool sp.whole] 34))=w6 at *
   obtain⟨D,hown,hkd⟩:=hM.out
   have hmw:mb<wr.heap.size:=groups_lt hown
   have hown6:w6.ownsGroups Tryz.prog 3 (mb+1) 3 .i64 mb k D:=hown.kept (row:=none) ⟨hbx.out.os,hbx.out.tape,hbx.out.output,hbx.out.size,fun j hj _=>hbx.out.block j hj⟩ (by simp) (fun es clock _ x _=>by cases x.val.ownBlock <;> simp)
   have hB6:Hid (Below mb w2 w6):=hgr.trans (hbx.out.mono (by have:=hgr.size;omega))
   have hbl:=hBx.out.lt
   obtain⟨sb,hsb⟩:∃b,wr.heap.size=b:=⟨_,rfl⟩
   rw [hsb] at hBx hmw hbl ⊢
   clear hsb hbx hown hgr hBr
   have hkey:=keyOf_int_mk (P:=Tryz.prog) children_int hwf
   have hownA:Hid (w6.drew.ownsGroups Tryz.prog 3 (mb+1) 3 .i64 mb k D):=hown6
   have hownB:Hid ((w6.alloc (.cells #[.int .i64 (k:Int)] 3)).drew.ownsGroups Tryz.prog 3 (mb+1) 3 .i64 mb k D):=(show w6.drew.ownsGroups Tryz.prog 3 (mb+1) 3 .i64 mb k D from hown6).kept (row:=none) (World.grownBy_alloc _ _ _) (by simp) (fun es clock _ x _=>by cases x.val.ownBlock <;> simp)
   have hBxA:Hid (Arr w6.drew sb 34 [.int .i64 sp.node,.int .i64 sp.parent,.int .i64 sp.entry,.int .i64 sp.from_,.int .i64 sp.to_,.int .i64 sp.kf,.int .i64 sp.kt,.bool sp.alias_,.bool sp.whole]):=hBx.out
   have hBxB:Hid (Arr (w6.drew.alloc (.cells #[.int .i64 (k:Int)] 3)) sb 34 [.int .i64 sp.node,.int .i64 sp.parent,.int .i64 sp.entry,.int .i64 sp.from_,.int .i64 sp.to_,.int .i64 sp.kf,.int .i64 sp.kt,.bool sp.alias_,.bool sp.whole]):=hBxA.out.alloc _
   have x1a:w6.drew.cell? ⟨sb,1,none⟩=some (.int .i64 sp.parent):=hBxA.out.cell' (i:=1) rfl
   have x1b:(w6.drew.alloc (.cells #[.int .i64 (k:Int)] 3)).cell? ⟨sb,1,none⟩=some (.int .i64 sp.parent):=hBxB.out.cell' (i:=1) rfl
   obtain⟨i0,hi0,hz0,hz1,hz2⟩:=info_parts Tryz.info3
   have hkm:k<maxLen:=by unfold maxLen;omega
   obtain⟨vA,zA,hrA,hatA,hoiA,hzA,hbkA⟩:=hownA.out.at (int_keyed children_int) under_kids (zero_ints _) hkm hkey
   obtain⟨vB,zB,hrB,hatB,hoiB,hzB,hbkB⟩:=hownB.out.at (int_keyed children_int) under_kids (zero_ints _) hkm hkey
   have hoiA1:(w6.drew.alloc (.cells #[.int .i64 (k:Int)] 3)).ownsRow (mb+1) 3 1 vA zA.length (I64 zA):=hoiA.1.alloc _
   have hoiB1:(w6.drew.alloc (.cells #[.int .i64 (k:Int)] 3)).ownsRow (mb+1) 3 1 vB zB.length (I64 zB):=hoiB.1
   have hwfk:(Lit.int .i64 (k:Int)).wf=true:=WalkArith.wf_i64 (by omega)
   have ekA:zA=kidI spans sp.parent k:=by have h2:=hkd.2 sp.parent;rw [hatA,itsOf_row hoiA] at h2;exact h2
   have ekB:zB=kidI spans sp.parent k:=by have h2:=hkd.2 sp.parent;rw [hatB,itsOf_row hoiB] at h2;exact h2
   have HZ:=Lib.hid (And.intro ekA (And.intro ekB (And.intro hatA hatB)))
   clear hM hown6 ekA ekB hatA hatB
   go_region_held3 (fun w'=>w'.cell? ⟨sb,1,none⟩=some (.int .i64 sp.parent)) (first | assumption | go_keep) (first
    | (refine step_apS rfl (.tmp 21) (.tmp 23) 38 rfl (mb+1) 3 _ 1 _ Tryz.underlying38 Tryz.info3 rfl (by decide) _ zA.length (I64 zA) rfl hoiA1 ⟨w6.heap.size,0,none⟩ _ [.int .i64 (k:Int)] rfl rfl (cells_new _ _ _) rfl (by unfold maxLen;omega) (by omega) (by simp;omega) ?_;intro v' w1 hown' hgrow hloc;have x1c:=hgrow.cell x1b (fun e=>own_arr hoiA1 hBxB.out (by decide) e.symm);obtain⟨w2',hrun2,hown2,hgrow2⟩:=hbkA w1 v' (zA ++ [(k:Int)]) ((World.grownBy_alloc _ _ _).trans hgrow) (hoiA.appended hown' hwfk) (by simp;omega) (hloc.imp id (fun h=>⟨_,h,by simp⟩));have x1d:=hgrow2.cell x1c (fun e=>by have:=Option.some.inj e;simp only at this;omega);have hMz:Hid (∃D:DataW Unit,w2'.ownsGroups Tryz.prog 3 (mb+1) 3 .i64 mb (k+1) D∧KidD D spans (k+1)):=⟨_,hown2,hpd.out hkd ((int_keyed children_int).key hkey) (hoiA.appended hown' hwfk) (by rw [HZ.out.1])⟩;have hBz:Hid (Below mb w2 w2'):=below_row (((hB6.out.alloc (by have:=hB6.out.size;omega) (.cells #[.int .i64 (k:Int)] 3)).drew).grown hgrow (by simp;omega) (fun b e=>by have:=(hoiA1.lt b e).1;omega)) hgrow2 (by have:=hgrow.size;simp at this;omega) (Nat.le_refl _);clear hgrow hloc)
    | (refine step_apS rfl (.tmp 21) (.tmp 23) 38 rfl (mb+1) 3 _ 1 _ Tryz.underlying38 Tryz.info3 rfl (by decide) _ zB.length (I64 zB) rfl hoiB1 ⟨w6.heap.size,0,none⟩ _ [.int .i64 (k:Int)] rfl rfl (cells_new _ _ _) rfl (by unfold maxLen;omega) (by omega) (by simp;omega) ?_;intro v' w1 hown' hgrow hloc;have x1c:=hgrow.cell x1b (fun e=>own_arr hoiB1 hBxB.out (by decide) e.symm);obtain⟨w2',hrun2,hown2,hgrow2⟩:=hbkB w1 v' (zB ++ [(k:Int)]) hgrow (hoiB.appended hown' hwfk) (by simp;omega) (hloc.imp id (fun h=>⟨_,h,by first | exact Nat.le_refl _ | simp⟩));have x1d:=hgrow2.cell x1c (fun e=>by have:=Option.some.inj e;simp only at this;omega);have hMz:Hid (∃D:DataW Unit,w2'.ownsGroups Tryz.prog 3 (mb+1) 3 .i64 mb (k+1) D∧KidD D spans (k+1)):=⟨_,hown2,hpd.out hkd ((int_keyed children_int).key hkey) (hoiB.appended hown' hwfk) (by rw [HZ.out.2.1])⟩;have hBz:Hid (Below mb w2 w2'):=below_row (((hB6.out.alloc (by have:=hB6.out.size;omega) (.cells #[.int .i64 (k:Int)] 3)).drew).grown hgrow (by simp;omega) (fun b e=>by have:=(hoiB1.lt b e).1;omega)) hgrow2 (by have:=hgrow.size;simp at this;omega) (Nat.le_refl _);clear hgrow hloc))
   all_goals
    clear hown' hrun2 hown2 hgrow2 x1c x1d x1a x1b hrA hrB hbkA hbkB hoiA hoiB hoiA1 hoiB1 hownA hownB hBxA hBxB HZ hpd hkd
    go_wp2_with (fail)
    go_roundw
    case rel=>exact⟨k+1,by omega,i64e (by omega),hMz,hBz.out⟩
    case measure=>simp [intOf];omega
end Go.Proofs.YtijoollonkibfaaGreatDoor
namespace Go.Proofs.YtijoollonkibfaaGreatDoor
open Go.RowKit
set_option maxRecDepth 20000 in
set_option maxHeartbeats 8000000 in
theorem ordered_any {B g o cs:Nat} {spans:List JSpan} (d0 d1 d2 d3 d5:Value) (A:Option Addr) (cl:Nat) (ks:List Int) (hk:∀(j:Nat) (x:Int),ks[j]? = some x→0≤x∧x<(spans.length:Int)∧(spAt spans x.toNat).entry=(j:Int)) (hkl:ks.length≤65536) (hN:spans.length≤65536)
  (w:World) (hS:SRd w B g o spans) (hA:Rd w A (I64 ks)) (hAb:∀ad,A=some ad→ad.block<w.heap.size) :
  Calls Tryz.prog 34 #[.agg #[d0,d1,d2,d3,.slice (some ⟨g,o,none⟩) spans.length cs,d5],.slice A ks.length cl] w fun e w'=>∃mb,e=.returned (.slice (some ⟨mb,0,none⟩) ks.length ks.length)∧w.heap.size≤mb∧Below w.heap.size w w'∧Hid (Arr w' mb 3 (I64 ks)):=by
 have h1:Hid (Arr (w.alloc (.cells #[d0,d1,d2,d3,.slice (some ⟨g,o,none⟩) spans.length cs,d5] 29)) w.heap.size 29 [d0,d1,d2,d3,.slice (some ⟨g,o,none⟩) spans.length cs,d5]):=Arr.new w 29 [d0,d1,d2,d3,.slice (some ⟨g,o,none⟩) spans.length cs,d5]
 have hB1:Hid (Below w.heap.size w (w.alloc (.cells #[d0,d1,d2,d3,.slice (some ⟨g,o,none⟩) spans.length cs,d5] 29))):=(Below.refl _ _).alloc (Nat.le_refl _) _
 have HS:=Lib.hid hS
 have HA:=Lib.hid hA
 have HAB:=Lib.hid hAb
 have HK:=Lib.hid hk
 clear hS hA hAb hk
 go_enter Tryz.func34,Tryz.ntmps34
 go_upto_region 1 with(fail)
 generalize w.alloc (.cells #[d0,d1,d2,d3,.slice (some ⟨g,o,none⟩) spans.length cs,d5] 29)=W at *
 obtain⟨n,hn⟩:∃n,spans.length=n:=⟨_,rfl⟩
 obtain⟨m,hm⟩:∃m,ks.length=m:=⟨_,rfl⟩
 obtain⟨gb,hgb⟩:∃b,w.heap.size=b:=⟨_,rfl⟩
 have hgbl:=h1.out.lt
 rw [hgb] at h1 hgbl hB1 ⊢
 rw [hn] at h1 hN ⊢
 rw [hm] at hkl ⊢
 have HN:=Lib.hid hn
 have HM:=Lib.hid hm
 have HGB:=Lib.hid hgb
 clear hn hgb hm
 go_upto_region 2 with(at_make;go_loud (refine wpList_mk rfl _ _ 38 rfl 3 _ _ Tryz.underlying38 infoInt rfl _ _ _ _ rfl rfl m m (by omega) (by omega) (by omega) (by omega) (by unfold maxLen;omega) ?_;intro mb w2 hmb hM hb2 hz2))
 have l1:gb<mb:=by have:=hmb.out;omega
 have hX:=Lib.hid (h1.out.keep hb2)
 have hB2:=Lib.hid (hB1.out.trans (hb2.mono (Nat.le_of_lt hgbl)))
 have hMz:Hid (Arr w2 mb 3 (I64 (List.replicate m 0))):=by rw [←I64_rep];exact hM
 have hA2:=Lib.hid (HA.out.keep (Below.mono hB2.out (by rw [HGB.out];exact Nat.le_refl _)))
 clear hM hb2 hz2 h1 hB1
 go_wp2_with (fail)
 go_loopw [13] (fun v wr=>∃(k:Nat),k≤m∧v=.int .i64 (k:Int)∧Hid (Arr wr mb 3 (I64 (ks.take k ++ List.replicate (m - k) 0)))∧Hid (Below gb w wr)∧w2.grownBy wr (some mb)) (fun v _=>m - (intOf v).toNat)
 case atStart=>exact⟨0,Nat.zero_le _,rfl,by simpa using hMz,hB2,World.grownBy.refl _ _⟩
 case round=>
  obtain⟨k,hk,rfl,hCr,hBr,hgr⟩:=hrel
  by_cases hkm:k=m
  ·have hk':¬(k:Int)<m:=by omega
   have hC2:Hid (Arr wr mb 3 (I64 ks)):=by
    have:=hCr.out
    rw [hkm,Nat.sub_self,List.take_of_length_le (by have:=HM.out;omega)] at this
    show Arr _ _ _ _
    simpa using this
   go_wp2_with (fail)
   go_ret
   exact⟨mb,by rw [HM.out];rfl,by have:=HGB.out;omega,by rw [HGB.out];exact hBr.out,hC2⟩
  ·have hk':(k:Int)<m:=by omega
   have k0:(0:Int)≤k:=by omega
   obtain⟨x,hx⟩:∃x,ks[k]? = some x:=⟨_,List.getElem?_eq_getElem (by have:=HM.out;omega)⟩
   obtain⟨ad,rfl,hc⟩:=(HA.out.keep (by rw [HGB.out];exact hBr.out)).at_ (I64_get hx)
   obtain⟨x1,x2,x3⟩:=HK.out k x hx
   obtain⟨kx,rfl⟩:∃kx:Nat,x=(kx:Int):=⟨x.toNat,by omega⟩
   have q0:(0:Int)≤kx:=by omega
   have q1:(kx:Int)<n:=by have:=HN.out;omega
   have hsp:=(HS.out.below hBr.out (by have:=HS.out.2.1;have:=HGB.out;omega)).of_at (i:=kx) (by have:=HN.out;omega)
   have s2:=hsp.c2
   rw [Int.toNat_natCast] at x3
   rw [x3] at s2
   have y4:=(hX.out.grown hgr (by intro e;have e':gb=mb:=Option.some.inj e;omega)).cell' (i:=4) rfl
   have pf:=hCr.out.frozen k
   have p0:wr.cell? ⟨mb,k,none⟩=some (.int .i64 0):=hCr.out.cell' (i:=k) (by unfold I64;rw [List.getElem?_map,List.getElem?_append_right (by rw [List.length_take];omega),List.length_take,List.getElem?_replicate];have:=HM.out;rw [if_pos (by omega)];rfl)
   have hC3:Hid (Arr (wr.setCell ⟨mb,k,none⟩ (.int .i64 (kx:Int))) mb 3 (I64 (ks.take (k+1) ++ List.replicate (m - (k+1)) 0))):=by
    have h:=hCr.out.store k (.int .i64 (kx:Int))
    rw [I64_set] at h
    have e:(ks.take k ++ List.replicate (m - k) 0).set k (kx:Int)=ks.take (k+1) ++ List.replicate (m - (k+1)) 0:=by
     have hl:(ks.take k).length=k:=by rw [List.length_take];have:=HM.out;omega
     rw [show m - k=(m - (k+1))+1 by omega,List.replicate_succ,List.set_append_right _ _ (by omega),hl,Nat.sub_self,List.set_cons_zero,List.take_add_one,hx]
     simp
    rw [e] at h
    exact h
   have hB3:=Lib.hid (hBr.out.setCell (p:=⟨mb,k,none⟩) (show gb≤mb by omega) (.int .i64 (kx:Int)))
   have hg3:=Lib.hid (grown_trans hgr (grown_set wr ⟨mb,k,none⟩ (.int .i64 (kx:Int))))
   clear hsp x1 x2 x3 hCr hx
   go_wp2_with (fail)
   go_roundw
   case rel=>exact⟨k+1,by omega,i64e (by omega),hC3,hB3,hg3.out⟩
   case measure=>simp [intOf];omega
end Go.Proofs.YtijoollonkibfaaGreatDoor
