/- The walk of share's merge: whatever the comparison says, the numbers stay in their bounds. -/
import Derived.Test.YtnnnagnjikdnnaaGreatDoorMAl
import Derived.Test.YtnnnagnjikdnnaaGreatDoorMAu
import Derived.Test.YtnnnagnjikdnnaaGreatDoorMAc
import Derived.Test.YtnnnagnjikdnnaaGreatDoorMAd
import Derived.Test.YtnnnagnjikdnnaaGreatDoorMAw
set_option linter.unusedVariables false
set_option linter.unusedSimpArgs false
set_option linter.defProp false
set_option linter.constructorNameAsVariable false
namespace Go.Proofs.YtnnnagnjikdnnaaGreatDoor
open Go.RowKit
def LessOK (Good:World→Prop) (N K kb:Nat):Prop:=∀(W:World) (a b:Nat),Good W→K≤W.heap.size→a<N→b<N→Calls Tryz.prog 100 #[.int .i64 (a:Int),.int .i64 (b:Int),.pointer (some ⟨kb,0,none⟩)] W fun e w'=>∃r,e=.returned (.bool r)∧Below W.heap.size W w'
def InR (N:Nat) (xs:List Int):Prop:=∀x∈xs,0≤x∧x<(N:Int)
def MrgR (N K g c n:Nat) (w:World) (e:Ending) (w':World):Prop:=e=.returned (.tuple #[])∧∃xs',xs'.length=n∧InR N xs'∧w'.ownsRow K 3 1 (.slice (some ⟨g,0,none⟩) n c) n (I64 xs')∧w.grownBy w' (some g)
set_option maxRecDepth 20000 in
set_option maxHeartbeats 8000000 in
theorem merge_any {Good:World→Prop} {N K kb N0 g0:Nat} (hst:∀w w',Good w→KP N0 g0 w w'→Good w') (hL:LessOK Good N N0 kb) (n:Nat):∀(xs:List Int) (g c:Nat) (w:World),xs.length=n→InR N xs→n≤65536→Good w→K≤g→(g=g0∨N0≤g)→N0≤w.heap.size →
  w.ownsRow K 3 1 (.slice (some ⟨g,0,none⟩) n c) n (I64 xs)→Calls Tryz.prog 99 #[.slice (some ⟨g,0,none⟩) n c,.func (.func 100) #[] #[.pointer (some ⟨kb,0,none⟩)]] w (MrgR N K g c n w):=by
 induction n using Nat.strongRecOn with
 | _ n ih=>
  intro xs g c w hlen hin hn hgd hK hG0 hN0 hown
  by_cases h2:n<2
  ·have h2':(n:Int)<2:=by omega
   go_enter Tryz.func99,Tryz.ntmps99
   go_wp2_with (fail)
   go_end0
   exact⟨rfl,xs,hlen,hin,hown,World.grownBy.refl _ _⟩
  ·have h2':¬(n:Int)<2:=by omega
   have HIN:=Lib.hid hin
   have HL:=Lib.hid hlen
   have HO:=Lib.hid hown
   have HGD:=Lib.hid hgd
   have hgl:=(hown.lt g rfl).2
   have hnc:n≤c:=by
    rcases hown.2 with⟨h,_⟩ | ⟨_,cap,_,h,_,_,h3,_⟩
    ·cases h
    ·injection h with _ _ h;omega
   have hq:0≤(n:Int) / 2∧(n:Int) / 2≤(c:Int):=by omega
   have hwk:Hid (Rd w (some ⟨g,0,none⟩) (I64 xs)):=fun j u hj=>⟨_,rfl,hown.cells (g:=g) rfl j u hj⟩
   have hmade:Hid ((w.alloc (.cells #[] 3)).ownsRow w.heap.size 3 1 (.slice (some ⟨w.heap.size,0,none⟩) 0 0) 0 []):=(World.ownsRow_made w #[] 0 (Nat.le_refl _) (by decide) rfl)
   have hb1:Hid (Below w.heap.size w (w.alloc (.cells #[] 3))):=(Below.refl _ _).alloc (Nat.le_refl _) _
   have hr1:Hid (Rd (w.alloc (.cells #[] 3)) (some ⟨g,0,none⟩) (I64 (xs.take (n / 2)))):=fun j u hj=>by
    obtain⟨ad,e,hc⟩:=hwk.out j u (by unfold I64 at hj ⊢;rw [List.map_take,List.getElem?_take] at hj;split at hj;exact hj;cases hj)
    obtain rfl:=Option.some.inj e
    exact⟨_,rfl,by rw [hb1.out.cell (by rw [blk_add];exact hgl)];exact hc⟩
   obtain⟨hf,hhf⟩:∃hf,n / 2=hf:=⟨_,rfl⟩
   have hdiv:(n:Int) / 2=(hf:Int):=by omega
   have hf1:1≤hf∧hf<n:=by omega
   have hfc:(hf:Int)≤(c:Int):=by omega
   have hlA:(I64 (xs.take hf)).length=hf:=by unfold I64;rw [List.length_map,List.length_take,hlen];omega
   rw [hhf] at hr1
   have hcz:(some (⟨g,0,none⟩:Addr)=none→c=0):=fun h=>by cases h
   have hmx:0+hf≤maxLen:=by unfold maxLen;omega
   have hby:(0+hf)*8≤140737488355328:=by omega
   have hbs:w.heap.size≤(w.alloc (.cells #[] 3)).heap.size:=by simp
   have hone:∀u∈I64 (xs.take hf),u.oneCell'=true:=ints_oneCell .i64 (xs.take hf)
   clear hown hin hlen hgd hq hhf
   go_enter Tryz.func99,Tryz.ntmps99
   go_upto_region 1 with(fail)
   go_upto_region 2 with((with_reducible show wpList _ _ _ (Oper.mk _ (Op.call { callee:=Callee.builtin Builtin.append,args:=_,argTypes:=_ }) _ _ _ _ :: _) _ _);go_loud (refine wpList_apl rfl (.tmp 10) (.tmp 15) 28 rfl w.heap.size 3 _ 8 Tryz.underlying28 infoInt rfl _ 0 [] rfl hmade.out _ hf c (I64 (xs.take hf)) rfl hr1.out hlA hcz hone hmx hby hbs ?_;intro v3 w3 hown3 hgr3))
   obtain⟨gl,cl,hv3,hcl,hclm⟩:=own_some hown3 (by omega)
   subst hv3
   rw [Nat.zero_add] at hown3
   have hg3:Hid ((w.alloc (.cells #[] 3)).grownBy w3 (some w.heap.size)):=hgr3
   have hB3:Hid (Below w.heap.size w w3):=hb1.out.grown hg3.out (by simp) (fun k e=>by have:=Option.some.inj e;omega)
   have hL3:Hid (w3.ownsRow w.heap.size 3 1 (.slice (some ⟨gl,0,none⟩) hf cl) hf (I64 (xs.take hf))):=hown3
   have hwk3:=Lib.hid (hwk.out.keep hB3.out)
   clear hgr3 hown3 hr1 hmade hlA hcz hmx hby hbs hone hb1 hg3 hwk
   rw [Nat.zero_add]
   obtain⟨hr,hhr⟩:∃hr,n - hf=hr:=⟨_,rfl⟩
   obtain⟨cr,hcr⟩:∃cr,c - hf=cr:=⟨_,rfl⟩
   have hr1:1≤hr∧hf+hr=n:=by omega
   have hmade:Hid ((w3.alloc (.cells #[] 3)).ownsRow w3.heap.size 3 1 (.slice (some ⟨w3.heap.size,0,none⟩) 0 0) 0 []):=(World.ownsRow_made w3 #[] 0 (Nat.le_refl _) (by decide) rfl)
   have hb1:Hid (Below w3.heap.size w3 (w3.alloc (.cells #[] 3))):=(Below.refl _ _).alloc (Nat.le_refl _) _
   have hq0:(0:Int)≤hf∧(hf:Int)≤n∧(n:Int)≤c:=by omega
   have hlA:(I64 (xs.drop hf)).length=hr:=by unfold I64;rw [List.length_map,List.length_drop,HL.out];omega
   have hra:Hid (Rd (w3.alloc (.cells #[] 3)) (some ⟨g,hf,none⟩) (I64 (xs.drop hf))):=by
    have h:=(hwk3.out.keep hb1.out).drop hf
    rw [←I64_drop,Addr.add_mid,Nat.zero_add] at h
    exact h
   have hcz:(some (⟨g,hf,none⟩:Addr)=none→cr=0):=fun h=>by cases h
   have hmx:0+hr≤maxLen:=by unfold maxLen;omega
   have hby:(0+hr)*8≤140737488355328:=by omega
   have hbs:w3.heap.size≤(w3.alloc (.cells #[] 3)).heap.size:=by simp
   have hone:∀u∈I64 (xs.drop hf),u.oneCell'=true:=ints_oneCell .i64 (xs.drop hf)
   go_upto_region 3 with(((with_reducible show wpList _ _ _ (Oper.mk _ (Op.call { callee:=Callee.builtin Builtin.append,args:=_,argTypes:=_ }) _ _ _ _ :: _) _ _);go_loud (refine wpList_apl rfl (.tmp 17) (.tmp 22) 28 rfl w3.heap.size 3 _ 8 Tryz.underlying28 infoInt rfl _ 0 [] rfl hmade.out _ hr cr (I64 (xs.drop hf)) rfl hra.out hlA hcz hone hmx hby hbs ?_;intro v4 w4 hown4 hgr4)))
   obtain⟨gr,c2,hv4,hcr4,hcrm⟩:=own_some hown4 (by omega)
   subst hv4
   rw [Nat.zero_add] at hown4 ⊢
   have hg4:Hid ((w3.alloc (.cells #[] 3)).grownBy w4 (some w3.heap.size)):=hgr4
   have hB4:Hid (Below w3.heap.size w3 w4):=hb1.out.grown hg4.out (by simp) (fun k e=>by have:=Option.some.inj e;omega)
   have hR4:Hid (w4.ownsRow w3.heap.size 3 1 (.slice (some ⟨gr,0,none⟩) hr c2) hr (I64 (xs.drop hf))):=hown4
   have hL4:=Lib.hid (own_below hL3.out hB4.out)
   have hs3:=hB3.out.size
   have hs4:=hB4.out.size
   have hO4:=Lib.hid (own_below (own_below HO.out hB3.out) hB4.out)
   have hZ4:=Lib.hid (hB3.out.trans (hB4.out.mono hs3))
   have l1:w.heap.size≤gl:=(hL3.out.lt gl rfl).1
   have l2:gl<w3.heap.size:=(hL3.out.lt gl rfl).2
   have l3:w3.heap.size≤gr:=(hR4.out.lt gr rfl).1
   have D1:=Lib.hid (ih hf (by omega) (xs.take hf) gl cl w4 (by rw [List.length_take,HL.out];omega) (fun x hx=>HIN.out x (List.mem_of_mem_take hx)) (by omega) (hst _ _ HGD.out (KP.of_below hZ4.out hN0)) (by omega) (.inr (by omega)) (by omega) (own_lo hL4.out (by omega)))
   clear hgr4 hown4 hra hmade hlA hcz hmx hby hbs hone hb1 hg4 hwk3 hL3 hB3 hB4 hdiv hfc hq0
   go_upto_region 4 with(go_at_call 99;((with_reducible refine D1.out.mono ?_));rintro e w5 ⟨rfl,xl,hxl,hxi,ho5,hg5⟩)
   have hR5:=Lib.hid (own_grown hR4.out hg5 (slice_ne (by omega)))
   have hO5:=Lib.hid (own_grown hO4.out hg5 (slice_ne (by omega)))
   have hs5:=hg5.size
   have hZ5:Hid (Below w.heap.size w w5):=hZ4.out.grown hg5 (by omega) (fun k e=>by have:=Option.some.inj e;omega)
   have HXI:=Lib.hid hxi
   have HXL:=Lib.hid hxl
   have HL5:=Lib.hid ho5
   have D2:=Lib.hid (ih hr (by omega) (xs.drop hf) gr c2 w5 (by rw [List.length_drop,HL.out];omega) (fun x hx=>HIN.out x (List.mem_of_mem_drop hx)) (by omega) (hst _ _ HGD.out (KP.of_below hZ5.out hN0)) (by omega) (.inr (by omega)) (by omega) (own_lo hR5.out (by omega)))
   clear D1 ho5 hg5 hR4 hO4 hL4 hxi hxl
   go_upto_region 5 with(go_at_call 99;((with_reducible refine D2.out.mono ?_));rintro e w6 ⟨rfl,xr,hxr,hxj,ho6,hg6⟩)
   have hL6:=Lib.hid (own_grown HL5.out hg6 (slice_ne (by omega)))
   have hO6:=Lib.hid (own_grown hO5.out hg6 (slice_ne (by omega)))
   have hs6:=hg6.size
   have hZ6:Hid (Below w.heap.size w w6):=hZ5.out.grown hg6 (by omega) (fun k e=>by have:=Option.some.inj e;omega)
   have HXJ:=Lib.hid hxj
   have HXR:=Lib.hid hxr
   have hR6:=Lib.hid ho6
   have hK6:Hid (KP N0 g0 w w6):=KP.of_below hZ6.out hN0
   have hLr:Hid (Rd w6 (some ⟨gl,0,none⟩) (I64 xl)):=fun j u hj=>⟨_,rfl,hL6.out.cells (g:=gl) rfl j u hj⟩
   have hRr:Hid (Rd w6 (some ⟨gr,0,none⟩) (I64 xr)):=fun j u hj=>⟨_,rfl,hR6.out.cells (g:=gr) rfl j u hj⟩
   clear D2 ho6 hg6 hR5 hO5 HL5 hxj hxr
   go_upto_region 6 with(fail)
   go_loopw [4,5,32] (fun a b v wr=>∃(i nl nr ol oR c1 c2:Nat) (ys xl xr:List Int),nl+nr+i=n∧nl≤c1∧nr≤c2∧a=.slice (some ⟨gl,ol,none⟩) nl c1∧b=.slice (some ⟨gr,oR,none⟩) nr c2∧v=.int .i64 (i:Int)∧Hid (xl.length=nl∧xr.length=nr∧ys.length=n∧InR N ys∧InR N xl∧InR N xr)∧Hid (Rd wr (some ⟨gl,ol,none⟩) (I64 xl))∧Hid (Rd wr (some ⟨gr,oR,none⟩) (I64 xr))∧Hid (wr.ownsRow K 3 1 (.slice (some ⟨g,0,none⟩) n c) n (I64 ys))∧Hid (KP N0 g0 w wr)∧w.grownBy wr (some g)) (fun _ _ v _=>n - (intOf v).toNat)
   case atStart=>
    have h1:=HXL.out
    have h2:=HXR.out
    have h3:=HL.out
    have hgk:w.grownBy w6 (some g):=⟨hZ6.out.os,hZ6.out.tape,hZ6.out.output,hZ6.out.size,fun j hj _=>hZ6.out.block j hj⟩
    exact⟨0,hf,hr,0,0,cl,c2,xs,xl,xr,by omega,by omega,by omega,rfl,rfl,rfl,⟨h1,h2,h3,HIN.out,HXI.out,HXJ.out⟩,hLr,hRr,hO6,hK6,hgk⟩
   case round=>
    clear hLr hRr hO6 hK6 hL6 hR6 HXI HXJ HXL HXR HL HO HIN hZ4 hZ5 hZ6 ih hcl hclm hcr4 hcrm hhr hcr h2 h2'
    obtain⟨i,nl,nr,ol,oR,c1,c2,ys,xl,xr,hsum,hc1,hc2,rfl,rfl,rfl,HP,hLr,hRr,hOr,hKr,hgr⟩:=hrel
    by_cases hin:i=n
    ·have hin':¬(i:Int)<n:=by omega
     go_wp2_with (fail)
     go_end0
     exact⟨rfl,ys,HP.out.2.2.1,HP.out.2.2.2.1,hOr,hgr⟩
    ·have hin':(i:Int)<n:=by omega
     have i0:(0:Int)≤i:=by omega
     rcases(show nr=0∨nr≠0∧nl=0∨nr≠0∧nl≠0 by omega) with h | ⟨h,h'⟩ | ⟨h,h'⟩
     ·subst h
      go_upto_region 8 with(fail)
      go_quiet (fail)
      have hb7:Below wr.heap.size wr (wr.drewN nq):=Below.drewN' (Below.refl _ _) nq
      have hL7:=Lib.hid (hLr.out.keep hb7)
      have hR7:=Lib.hid (hRr.out.keep hb7)
      have hO7:=Lib.hid (own_below hOr.out hb7)
      have hK7:=Lib.hid (hKr.out.trans (KP.of_below hb7 (by have:=hKr.out.size;omega)))
      have hg7:Hid (w.grownBy (wr.drewN nq) (some g)):=grown_trans hgr ⟨hb7.os,hb7.tape,hb7.output,hb7.size,fun j hj _=>hb7.block j hj⟩
      clear hLr hRr hOr hKr hgr hb7
      generalize (wr.drewN nq)=w7 at *
      obtain⟨x,hx,hxN⟩:=InR_get HP.out.2.2.2.2.1 (k:=0) (by have:=HP.out.1;omega)
      obtain⟨ad,had,hc0⟩:=hL7.out.at_ (I64_get hx)
      obtain rfl:=Option.some.inj had
      have e0:w7.drew.cell? ⟨gl,ol,none⟩=some (.int .i64 (x:Int)):=hc0
      have hgne:g≠gl:=by omega
      have o1:=own_cell1 hO7.out (i:=i) (I64_getD (l:=ys) (by have:=HP.out.2.2.1;omega))
      have o2:w7.drew.cell? ⟨g,i,none⟩=some (.int .i64 (ys.getD i 0)):=o1.1
      have o3:w7.drew.frozen? ⟨g,i,none⟩=false:=o1.2
      have e1:(w7.drew.setCell ⟨g,i,none⟩ (.int .i64 (x:Int))).cell? ⟨gl,ol,none⟩=some (.int .i64 (x:Int)):=(World.cell?_setCell_far _ _ _ _ hgne).trans e0
      have hO8:Hid ((w7.setCell ⟨g,i,none⟩ (.int .i64 (x:Int))).drew.ownsRow K 3 1 (.slice (some ⟨g,0,none⟩) n c) n (I64 (ys.set i (x:Int)))):=by rw [←I64_set];exact own_set1 hO7.out i _
      have hK8:Hid (KP N0 g0 w (w7.setCell ⟨g,i,none⟩ (.int .i64 (x:Int))).drew):=(hK7.out.set (p:=⟨g,i,none⟩) hG0 _).drew
      have hg8:Hid (w.grownBy (w7.setCell ⟨g,i,none⟩ (.int .i64 (x:Int))).drew (some g)):=grown_drw (grown_trans hg7.out (grown_set w7 ⟨g,i,none⟩ (.int .i64 (x:Int))))
      have hL8:Hid (Rd (w7.setCell ⟨g,i,none⟩ (.int .i64 (x:Int))).drew (some ⟨gl,ol,none⟩) (I64 xl)):=hL7.out.setCell (p:=⟨g,i,none⟩) _ (fun ad e=>by have:=Option.some.inj e;subst this;show gl≠g;omega)
      have hR8:Hid (Rd (w7.setCell ⟨g,i,none⟩ (.int .i64 (x:Int))).drew (some ⟨gr,oR,none⟩) (I64 xr)):=hR7.out.setCell (p:=⟨g,i,none⟩) _ (fun ad e=>by have:=Option.some.inj e;subst this;show gr≠g;omega)
      have hY8:Hid (InR N (ys.set i (x:Int))):=fun y hy=>by
       rcases List.mem_or_eq_of_mem_set hy with h1 | h1
       ·exact HP.out.2.2.2.1 y h1
       ·rw [h1];omega
      have hX8:Hid (InR N (xl.drop 1)):=fun y hy=>HP.out.2.2.2.2.1 y (List.mem_of_mem_drop hy)
      generalize ys.getD i 0=yv at *
      obtain⟨m,hm⟩:∃m,nl - 1=m:=⟨_,rfl⟩
      obtain⟨d,hd⟩:∃d,c1 - 1=d:=⟨_,rfl⟩
      have p0:0<nl:=by omega
      have p1:(1:Int)≤nl∧(nl:Int)≤c1:=by omega
      have p2:(0:Int)<nl:=by omega
      clear o1 hc0 hL7 hR7 hO7 hK7 hg7
      rcases(show c1=1∨c1≠1 by omega) with rfl | hc
      ·have hd0:d=0:=by omega
       have hm0:m=0:=by omega
       subst hd0
       subst hm0
       go_upto_region 9 with(fail)
       go_region_held3 (fun w'=>w'.cell? ⟨gl,ol,none⟩=some (.int .i64 (x:Int))) (first | assumption | go_keep) (fail)
       have hr8:Hid (Rd (w7.setCell ⟨g,i,none⟩ (.int .i64 (x:Int))).drew (some ⟨gl,ol,none⟩) (I64 (xl.drop 1))):=by
        have hq:xl.drop 1 = []:=List.drop_of_length_le (by have:=HP.out.1;omega)
        rw [hq];exact Rd.nil
       have hP8:Hid (((xl.drop 1).length=0∧xr.length=0∧(ys.set i (x:Int)).length=n∧InR N (ys.set i (x:Int))∧InR N (xl.drop 1)∧InR N xr)):=⟨(by rw [List.length_drop];have:=HP.out.1;omega),HP.out.2.1,by rw [List.length_set];exact HP.out.2.2.1,hY8.out,hX8.out,HP.out.2.2.2.2.2⟩
       clear e0 e1 o2 o3 hL8 hX8 hY8 HP
       generalize (w7.setCell ⟨g,i,none⟩ (.int .i64 (x:Int))).drew=w8 at *
       go_wp2_with (fail)
       go_roundw
       case rel=>exact⟨i+1,0,0,ol,oR,0,c2,ys.set i (x:Int),(xl.drop 1),xr,by omega,by omega,by omega,rfl,rfl,i64e (by omega),hP8,hr8,hR8,hO8,hK8,hg8.out⟩
       case measure=>simp [intOf];omega
      ·go_upto_region 9 with(fail)
       go_region_held3 (fun w'=>w'.cell? ⟨gl,ol,none⟩=some (.int .i64 (x:Int))) (first | assumption | go_keep) (fail)
       have hr8:Hid (Rd (w7.setCell ⟨g,i,none⟩ (.int .i64 (x:Int))).drew (some ⟨gl,ol+1,none⟩) (I64 (xl.drop 1))):=by
        have h:=hL8.out.drop 1
        rw [←I64_drop,Addr.add_mid] at h
        exact h
       have hP8:Hid (((xl.drop 1).length=m∧xr.length=0∧(ys.set i (x:Int)).length=n∧InR N (ys.set i (x:Int))∧InR N (xl.drop 1)∧InR N xr)):=⟨(by rw [List.length_drop];have:=HP.out.1;omega),HP.out.2.1,by rw [List.length_set];exact HP.out.2.2.1,hY8.out,hX8.out,HP.out.2.2.2.2.2⟩
       clear e0 e1 o2 o3 hL8 hX8 hY8 HP
       generalize (w7.setCell ⟨g,i,none⟩ (.int .i64 (x:Int))).drew=w8 at *
       go_wp2_with (fail)
       go_roundw
       case rel=>exact⟨i+1,m,0,ol+1,oR,d,c2,ys.set i (x:Int),(xl.drop 1),xr,by omega,by omega,by omega,rfl,rfl,i64e (by omega),hP8,hr8,hR8,hO8,hK8,hg8.out⟩
       case measure=>simp [intOf];omega
     ·subst h'
      have h0:((nr:Int) == 0)=false:=by simp;omega
      go_upto_region 8 with(fail)
      go_quiet (fail)
      have hb7:Below wr.heap.size wr (wr.drewN nq):=Below.drewN' (Below.refl _ _) nq
      have hL7:=Lib.hid (hLr.out.keep hb7)
      have hR7:=Lib.hid (hRr.out.keep hb7)
      have hO7:=Lib.hid (own_below hOr.out hb7)
      have hK7:=Lib.hid (hKr.out.trans (KP.of_below hb7 (by have:=hKr.out.size;omega)))
      have hg7:Hid (w.grownBy (wr.drewN nq) (some g)):=grown_trans hgr ⟨hb7.os,hb7.tape,hb7.output,hb7.size,fun j hj _=>hb7.block j hj⟩
      clear hLr hRr hOr hKr hgr hb7
      generalize (wr.drewN nq)=w7 at *
      obtain⟨x,hx,hxN⟩:=InR_get HP.out.2.2.2.2.2 (k:=0) (by have:=HP.out.2.1;omega)
      obtain⟨ad,had,hc0⟩:=hR7.out.at_ (I64_get hx)
      obtain rfl:=Option.some.inj had
      have e0:w7.drew.cell? ⟨gr,oR,none⟩=some (.int .i64 (x:Int)):=hc0
      have hgne:g≠gr:=by omega
      have o1:=own_cell1 hO7.out (i:=i) (I64_getD (l:=ys) (by have:=HP.out.2.2.1;omega))
      have o2:w7.drew.cell? ⟨g,i,none⟩=some (.int .i64 (ys.getD i 0)):=o1.1
      have o3:w7.drew.frozen? ⟨g,i,none⟩=false:=o1.2
      have e1:(w7.drew.setCell ⟨g,i,none⟩ (.int .i64 (x:Int))).cell? ⟨gr,oR,none⟩=some (.int .i64 (x:Int)):=(World.cell?_setCell_far _ _ _ _ hgne).trans e0
      have hO8:Hid ((w7.setCell ⟨g,i,none⟩ (.int .i64 (x:Int))).drew.ownsRow K 3 1 (.slice (some ⟨g,0,none⟩) n c) n (I64 (ys.set i (x:Int)))):=by rw [←I64_set];exact own_set1 hO7.out i _
      have hK8:Hid (KP N0 g0 w (w7.setCell ⟨g,i,none⟩ (.int .i64 (x:Int))).drew):=(hK7.out.set (p:=⟨g,i,none⟩) hG0 _).drew
      have hg8:Hid (w.grownBy (w7.setCell ⟨g,i,none⟩ (.int .i64 (x:Int))).drew (some g)):=grown_drw (grown_trans hg7.out (grown_set w7 ⟨g,i,none⟩ (.int .i64 (x:Int))))
      have hL8:Hid (Rd (w7.setCell ⟨g,i,none⟩ (.int .i64 (x:Int))).drew (some ⟨gl,ol,none⟩) (I64 xl)):=hL7.out.setCell (p:=⟨g,i,none⟩) _ (fun ad e=>by have:=Option.some.inj e;subst this;show gl≠g;omega)
      have hR8:Hid (Rd (w7.setCell ⟨g,i,none⟩ (.int .i64 (x:Int))).drew (some ⟨gr,oR,none⟩) (I64 xr)):=hR7.out.setCell (p:=⟨g,i,none⟩) _ (fun ad e=>by have:=Option.some.inj e;subst this;show gr≠g;omega)
      have hY8:Hid (InR N (ys.set i (x:Int))):=fun y hy=>by
       rcases List.mem_or_eq_of_mem_set hy with h1 | h1
       ·exact HP.out.2.2.2.1 y h1
       ·rw [h1];omega
      have hX8:Hid (InR N (xr.drop 1)):=fun y hy=>HP.out.2.2.2.2.2 y (List.mem_of_mem_drop hy)
      generalize ys.getD i 0=yv at *
      obtain⟨m,hm⟩:∃m,nr - 1=m:=⟨_,rfl⟩
      obtain⟨d,hd⟩:∃d,c2 - 1=d:=⟨_,rfl⟩
      have p0:0<nr:=by omega
      have p1:(1:Int)≤nr∧(nr:Int)≤c2:=by omega
      have p2:(0:Int)<nr:=by omega
      clear o1 hc0 hL7 hR7 hO7 hK7 hg7
      rcases(show c2=1∨c2≠1 by omega) with rfl | hc
      ·have hd0:d=0:=by omega
       have hm0:m=0:=by omega
       subst hd0
       subst hm0
       go_upto_region 10 with(fail)
       go_region_held3 (fun w'=>w'.cell? ⟨gr,oR,none⟩=some (.int .i64 (x:Int))) (first | assumption | go_keep) (fail)
       have hr8:Hid (Rd (w7.setCell ⟨g,i,none⟩ (.int .i64 (x:Int))).drew (some ⟨gr,oR,none⟩) (I64 (xr.drop 1))):=by
        have hq:xr.drop 1 = []:=List.drop_of_length_le (by have:=HP.out.2.1;omega)
        rw [hq];exact Rd.nil
       have hP8:Hid ((xl.length=0∧(xr.drop 1).length=0∧(ys.set i (x:Int)).length=n∧InR N (ys.set i (x:Int))∧InR N xl∧InR N (xr.drop 1))):=⟨HP.out.1,(by rw [List.length_drop];have:=HP.out.2.1;omega),by rw [List.length_set];exact HP.out.2.2.1,hY8.out,HP.out.2.2.2.2.1,hX8.out⟩
       clear e0 e1 o2 o3 hR8 hX8 hY8 HP
       generalize (w7.setCell ⟨g,i,none⟩ (.int .i64 (x:Int))).drew=w8 at *
       go_wp2_with (fail)
       go_roundw
       case rel=>exact⟨i+1,0,0,ol,oR,c1,0,ys.set i (x:Int),xl,(xr.drop 1),by omega,by omega,by omega,rfl,rfl,i64e (by omega),hP8,hL8,hr8,hO8,hK8,hg8.out⟩
       case measure=>simp [intOf];omega
      ·go_upto_region 10 with(fail)
       go_region_held3 (fun w'=>w'.cell? ⟨gr,oR,none⟩=some (.int .i64 (x:Int))) (first | assumption | go_keep) (fail)
       have hr8:Hid (Rd (w7.setCell ⟨g,i,none⟩ (.int .i64 (x:Int))).drew (some ⟨gr,oR+1,none⟩) (I64 (xr.drop 1))):=by
        have h:=hR8.out.drop 1
        rw [←I64_drop,Addr.add_mid] at h
        exact h
       have hP8:Hid ((xl.length=0∧(xr.drop 1).length=m∧(ys.set i (x:Int)).length=n∧InR N (ys.set i (x:Int))∧InR N xl∧InR N (xr.drop 1))):=⟨HP.out.1,(by rw [List.length_drop];have:=HP.out.2.1;omega),by rw [List.length_set];exact HP.out.2.2.1,hY8.out,HP.out.2.2.2.2.1,hX8.out⟩
       clear e0 e1 o2 o3 hR8 hX8 hY8 HP
       generalize (w7.setCell ⟨g,i,none⟩ (.int .i64 (x:Int))).drew=w8 at *
       go_wp2_with (fail)
       go_roundw
       case rel=>exact⟨i+1,0,m,ol,oR+1,c1,d,ys.set i (x:Int),xl,(xr.drop 1),by omega,by omega,by omega,rfl,rfl,i64e (by omega),hP8,hL8,hr8,hO8,hK8,hg8.out⟩
       case measure=>simp [intOf];omega
     ·have h0:((nr:Int) == 0)=false:=by simp;omega
      have h1:0<nl:=by omega
      have h1':(0:Int)<nl:=by omega
      have h2:0<nr:=by omega
      have h2':(0:Int)<nr:=by omega
      obtain⟨xa,hxa,hxaN⟩:=InR_get HP.out.2.2.2.2.1 (k:=0) (by have:=HP.out.1;omega)
      obtain⟨ad,had,hc0⟩:=hLr.out.at_ (I64_get hxa)
      obtain rfl:=Option.some.inj had
      obtain⟨xb,hxb,hxbN⟩:=InR_get HP.out.2.2.2.2.2 (k:=0) (by have:=HP.out.2.1;omega)
      obtain⟨ad,had,hc1⟩:=hRr.out.at_ (I64_get hxb)
      obtain rfl:=Option.some.inj had
      have q0:wr.drew.cell? ⟨gl,ol,none⟩=some (.int .i64 (xa:Int)):=hc0
      have q1:wr.drew.cell? ⟨gr,oR,none⟩=some (.int .i64 (xb:Int)):=hc1
      have D:=Lib.hid (hL wr.drew xb xa (hst _ _ HGD.out hKr.out.drew) (by have:=hKr.out.size;simp;omega) hxbN hxaN)
      clear hxa hxb hc0 hc1
      go_upto_region 8 with(fail)
      go_region_held3 (fun w'=>w'.cell? ⟨gl,ol,none⟩=some (.int .i64 (xa:Int))∧w'.cell? ⟨gr,oR,none⟩=some (.int .i64 (xb:Int))) (first | exact⟨by assumption,by assumption⟩ | go_keep) ((go_at_call 100;((with_reducible refine D.out.mono ?_));rintro e w7 ⟨r,rfl,hb7'⟩;have k0:=(hb7'.cell (block_lt_of_cell q0)).trans q0;have k1:=(hb7'.cell (block_lt_of_cell q1)).trans q1))
      have hb7:Below wr.heap.size wr w7:=(Below.refl _ _).drew.trans hb7'
      have hL7:=Lib.hid (hLr.out.keep hb7)
      have hR7:=Lib.hid (hRr.out.keep hb7)
      have hO7:=Lib.hid (own_below hOr.out hb7)
      have hK7:=Lib.hid (hKr.out.trans (KP.of_below hb7 (by have:=hKr.out.size;omega)))
      have hg7:Hid (w.grownBy w7 (some g)):=grown_trans hgr ⟨hb7.os,hb7.tape,hb7.output,hb7.size,fun j hj _=>hb7.block j hj⟩
      clear hLr hRr hOr hKr hgr hb7 hb7' D q0 q1 k0 k1
      cases r with
      | true=>
       obtain⟨x,hx,hxN⟩:=InR_get HP.out.2.2.2.2.2 (k:=0) (by have:=HP.out.2.1;omega)
       obtain⟨ad,had,hc0⟩:=hR7.out.at_ (I64_get hx)
       obtain rfl:=Option.some.inj had
       have e0:w7.drew.cell? ⟨gr,oR,none⟩=some (.int .i64 (x:Int)):=hc0
       have hgne:g≠gr:=by omega
       have o1:=own_cell1 hO7.out (i:=i) (I64_getD (l:=ys) (by have:=HP.out.2.2.1;omega))
       have o2:w7.drew.cell? ⟨g,i,none⟩=some (.int .i64 (ys.getD i 0)):=o1.1
       have o3:w7.drew.frozen? ⟨g,i,none⟩=false:=o1.2
       have e1:(w7.drew.setCell ⟨g,i,none⟩ (.int .i64 (x:Int))).cell? ⟨gr,oR,none⟩=some (.int .i64 (x:Int)):=(World.cell?_setCell_far _ _ _ _ hgne).trans e0
       have hO8:Hid ((w7.setCell ⟨g,i,none⟩ (.int .i64 (x:Int))).drew.ownsRow K 3 1 (.slice (some ⟨g,0,none⟩) n c) n (I64 (ys.set i (x:Int)))):=by rw [←I64_set];exact own_set1 hO7.out i _
       have hK8:Hid (KP N0 g0 w (w7.setCell ⟨g,i,none⟩ (.int .i64 (x:Int))).drew):=(hK7.out.set (p:=⟨g,i,none⟩) hG0 _).drew
       have hg8:Hid (w.grownBy (w7.setCell ⟨g,i,none⟩ (.int .i64 (x:Int))).drew (some g)):=grown_drw (grown_trans hg7.out (grown_set w7 ⟨g,i,none⟩ (.int .i64 (x:Int))))
       have hL8:Hid (Rd (w7.setCell ⟨g,i,none⟩ (.int .i64 (x:Int))).drew (some ⟨gl,ol,none⟩) (I64 xl)):=hL7.out.setCell (p:=⟨g,i,none⟩) _ (fun ad e=>by have:=Option.some.inj e;subst this;show gl≠g;omega)
       have hR8:Hid (Rd (w7.setCell ⟨g,i,none⟩ (.int .i64 (x:Int))).drew (some ⟨gr,oR,none⟩) (I64 xr)):=hR7.out.setCell (p:=⟨g,i,none⟩) _ (fun ad e=>by have:=Option.some.inj e;subst this;show gr≠g;omega)
       have hY8:Hid (InR N (ys.set i (x:Int))):=fun y hy=>by
        rcases List.mem_or_eq_of_mem_set hy with h1 | h1
        ·exact HP.out.2.2.2.1 y h1
        ·rw [h1];omega
       have hX8:Hid (InR N (xr.drop 1)):=fun y hy=>HP.out.2.2.2.2.2 y (List.mem_of_mem_drop hy)
       generalize ys.getD i 0=yv at *
       obtain⟨m,hm⟩:∃m,nr - 1=m:=⟨_,rfl⟩
       obtain⟨d,hd⟩:∃d,c2 - 1=d:=⟨_,rfl⟩
       have p0:0<nr:=by omega
       have p1:(1:Int)≤nr∧(nr:Int)≤c2:=by omega
       have p2:(0:Int)<nr:=by omega
       clear o1 hc0 hL7 hR7 hO7 hK7 hg7
       rcases(show c2=1∨c2≠1 by omega) with rfl | hc
       ·have hd0:d=0:=by omega
        have hm0:m=0:=by omega
        subst hd0
        subst hm0
        go_upto_region 10 with(fail)
        go_region_held3 (fun w'=>w'.cell? ⟨gr,oR,none⟩=some (.int .i64 (x:Int))) (first | assumption | go_keep) (fail)
        have hr8:Hid (Rd (w7.setCell ⟨g,i,none⟩ (.int .i64 (x:Int))).drew (some ⟨gr,oR,none⟩) (I64 (xr.drop 1))):=by
         have hq:xr.drop 1 = []:=List.drop_of_length_le (by have:=HP.out.2.1;omega)
         rw [hq];exact Rd.nil
        have hP8:Hid ((xl.length=nl∧(xr.drop 1).length=0∧(ys.set i (x:Int)).length=n∧InR N (ys.set i (x:Int))∧InR N xl∧InR N (xr.drop 1))):=⟨HP.out.1,(by rw [List.length_drop];have:=HP.out.2.1;omega),by rw [List.length_set];exact HP.out.2.2.1,hY8.out,HP.out.2.2.2.2.1,hX8.out⟩
        clear e0 e1 o2 o3 hR8 hX8 hY8 HP
        generalize (w7.setCell ⟨g,i,none⟩ (.int .i64 (x:Int))).drew=w8 at *
        go_wp2_with (fail)
        go_roundw
        case rel=>exact⟨i+1,nl,0,ol,oR,c1,0,ys.set i (x:Int),xl,(xr.drop 1),by omega,by omega,by omega,rfl,rfl,i64e (by omega),hP8,hL8,hr8,hO8,hK8,hg8.out⟩
        case measure=>simp [intOf];omega
       ·go_upto_region 10 with(fail)
        go_region_held3 (fun w'=>w'.cell? ⟨gr,oR,none⟩=some (.int .i64 (x:Int))) (first | assumption | go_keep) (fail)
        have hr8:Hid (Rd (w7.setCell ⟨g,i,none⟩ (.int .i64 (x:Int))).drew (some ⟨gr,oR+1,none⟩) (I64 (xr.drop 1))):=by
         have h:=hR8.out.drop 1
         rw [←I64_drop,Addr.add_mid] at h
         exact h
        have hP8:Hid ((xl.length=nl∧(xr.drop 1).length=m∧(ys.set i (x:Int)).length=n∧InR N (ys.set i (x:Int))∧InR N xl∧InR N (xr.drop 1))):=⟨HP.out.1,(by rw [List.length_drop];have:=HP.out.2.1;omega),by rw [List.length_set];exact HP.out.2.2.1,hY8.out,HP.out.2.2.2.2.1,hX8.out⟩
        clear e0 e1 o2 o3 hR8 hX8 hY8 HP
        generalize (w7.setCell ⟨g,i,none⟩ (.int .i64 (x:Int))).drew=w8 at *
        go_wp2_with (fail)
        go_roundw
        case rel=>exact⟨i+1,nl,m,ol,oR+1,c1,d,ys.set i (x:Int),xl,(xr.drop 1),by omega,by omega,by omega,rfl,rfl,i64e (by omega),hP8,hL8,hr8,hO8,hK8,hg8.out⟩
        case measure=>simp [intOf];omega
      | false=>
       obtain⟨x,hx,hxN⟩:=InR_get HP.out.2.2.2.2.1 (k:=0) (by have:=HP.out.1;omega)
       obtain⟨ad,had,hc0⟩:=hL7.out.at_ (I64_get hx)
       obtain rfl:=Option.some.inj had
       have e0:w7.drew.cell? ⟨gl,ol,none⟩=some (.int .i64 (x:Int)):=hc0
       have hgne:g≠gl:=by omega
       have o1:=own_cell1 hO7.out (i:=i) (I64_getD (l:=ys) (by have:=HP.out.2.2.1;omega))
       have o2:w7.drew.cell? ⟨g,i,none⟩=some (.int .i64 (ys.getD i 0)):=o1.1
       have o3:w7.drew.frozen? ⟨g,i,none⟩=false:=o1.2
       have e1:(w7.drew.setCell ⟨g,i,none⟩ (.int .i64 (x:Int))).cell? ⟨gl,ol,none⟩=some (.int .i64 (x:Int)):=(World.cell?_setCell_far _ _ _ _ hgne).trans e0
       have hO8:Hid ((w7.setCell ⟨g,i,none⟩ (.int .i64 (x:Int))).drew.ownsRow K 3 1 (.slice (some ⟨g,0,none⟩) n c) n (I64 (ys.set i (x:Int)))):=by rw [←I64_set];exact own_set1 hO7.out i _
       have hK8:Hid (KP N0 g0 w (w7.setCell ⟨g,i,none⟩ (.int .i64 (x:Int))).drew):=(hK7.out.set (p:=⟨g,i,none⟩) hG0 _).drew
       have hg8:Hid (w.grownBy (w7.setCell ⟨g,i,none⟩ (.int .i64 (x:Int))).drew (some g)):=grown_drw (grown_trans hg7.out (grown_set w7 ⟨g,i,none⟩ (.int .i64 (x:Int))))
       have hL8:Hid (Rd (w7.setCell ⟨g,i,none⟩ (.int .i64 (x:Int))).drew (some ⟨gl,ol,none⟩) (I64 xl)):=hL7.out.setCell (p:=⟨g,i,none⟩) _ (fun ad e=>by have:=Option.some.inj e;subst this;show gl≠g;omega)
       have hR8:Hid (Rd (w7.setCell ⟨g,i,none⟩ (.int .i64 (x:Int))).drew (some ⟨gr,oR,none⟩) (I64 xr)):=hR7.out.setCell (p:=⟨g,i,none⟩) _ (fun ad e=>by have:=Option.some.inj e;subst this;show gr≠g;omega)
       have hY8:Hid (InR N (ys.set i (x:Int))):=fun y hy=>by
        rcases List.mem_or_eq_of_mem_set hy with h1 | h1
        ·exact HP.out.2.2.2.1 y h1
        ·rw [h1];omega
       have hX8:Hid (InR N (xl.drop 1)):=fun y hy=>HP.out.2.2.2.2.1 y (List.mem_of_mem_drop hy)
       generalize ys.getD i 0=yv at *
       obtain⟨m,hm⟩:∃m,nl - 1=m:=⟨_,rfl⟩
       obtain⟨d,hd⟩:∃d,c1 - 1=d:=⟨_,rfl⟩
       have p0:0<nl:=by omega
       have p1:(1:Int)≤nl∧(nl:Int)≤c1:=by omega
       have p2:(0:Int)<nl:=by omega
       clear o1 hc0 hL7 hR7 hO7 hK7 hg7
       rcases(show c1=1∨c1≠1 by omega) with rfl | hc
       ·have hd0:d=0:=by omega
        have hm0:m=0:=by omega
        subst hd0
        subst hm0
        go_upto_region 9 with(fail)
        go_region_held3 (fun w'=>w'.cell? ⟨gl,ol,none⟩=some (.int .i64 (x:Int))) (first | assumption | go_keep) (fail)
        have hr8:Hid (Rd (w7.setCell ⟨g,i,none⟩ (.int .i64 (x:Int))).drew (some ⟨gl,ol,none⟩) (I64 (xl.drop 1))):=by
         have hq:xl.drop 1 = []:=List.drop_of_length_le (by have:=HP.out.1;omega)
         rw [hq];exact Rd.nil
        have hP8:Hid (((xl.drop 1).length=0∧xr.length=nr∧(ys.set i (x:Int)).length=n∧InR N (ys.set i (x:Int))∧InR N (xl.drop 1)∧InR N xr)):=⟨(by rw [List.length_drop];have:=HP.out.1;omega),HP.out.2.1,by rw [List.length_set];exact HP.out.2.2.1,hY8.out,hX8.out,HP.out.2.2.2.2.2⟩
        clear e0 e1 o2 o3 hL8 hX8 hY8 HP
        generalize (w7.setCell ⟨g,i,none⟩ (.int .i64 (x:Int))).drew=w8 at *
        go_wp2_with (fail)
        go_roundw
        case rel=>exact⟨i+1,0,nr,ol,oR,0,c2,ys.set i (x:Int),(xl.drop 1),xr,by omega,by omega,by omega,rfl,rfl,i64e (by omega),hP8,hr8,hR8,hO8,hK8,hg8.out⟩
        case measure=>simp [intOf];omega
       ·go_upto_region 9 with(fail)
        go_region_held3 (fun w'=>w'.cell? ⟨gl,ol,none⟩=some (.int .i64 (x:Int))) (first | assumption | go_keep) (fail)
        have hr8:Hid (Rd (w7.setCell ⟨g,i,none⟩ (.int .i64 (x:Int))).drew (some ⟨gl,ol+1,none⟩) (I64 (xl.drop 1))):=by
         have h:=hL8.out.drop 1
         rw [←I64_drop,Addr.add_mid] at h
         exact h
        have hP8:Hid (((xl.drop 1).length=m∧xr.length=nr∧(ys.set i (x:Int)).length=n∧InR N (ys.set i (x:Int))∧InR N (xl.drop 1)∧InR N xr)):=⟨(by rw [List.length_drop];have:=HP.out.1;omega),HP.out.2.1,by rw [List.length_set];exact HP.out.2.2.1,hY8.out,hX8.out,HP.out.2.2.2.2.2⟩
        clear e0 e1 o2 o3 hL8 hX8 hY8 HP
        generalize (w7.setCell ⟨g,i,none⟩ (.int .i64 (x:Int))).drew=w8 at *
        go_wp2_with (fail)
        go_roundw
        case rel=>exact⟨i+1,m,nr,ol+1,oR,d,c2,ys.set i (x:Int),(xl.drop 1),xr,by omega,by omega,by omega,rfl,rfl,i64e (by omega),hP8,hr8,hR8,hO8,hK8,hg8.out⟩
        case measure=>simp [intOf];omega
end Go.Proofs.YtnnnagnjikdnnaaGreatDoor
namespace Go.Proofs.YtnnnagnjikdnnaaGreatDoor
open Go.RowKit
structure LeafT (nd:GNode):Prop where
 ok:ChkOK [nd] 0
 keys:nd.keys = []
 items:nd.items = []
 kind:nd.kind=5
 ord:nd.ord=false
def KeyM (w:World) (B ks i:Nat) (nd:GNode):Prop:=∃nb c,w.cell? ⟨ks,i*2,none⟩=some (.slice (some ⟨nb,0,none⟩) 1 c)∧w.cell? ⟨ks,i*2+1,none⟩=some (.int .i64 0)∧w.ownsRow B 30 5 (.slice (some ⟨nb,0,none⟩) 1 c) 1 (kleafC nd)
structure KeysW (N0 g0 B ks kb m:Nat) (wb w:World):Prop where
 lib:LibE w
 lo:Below B wb w
 box:w.cell? ⟨kb,0,none⟩=some (.slice (some ⟨ks,0,none⟩) m m)
 bl:kb<N0∧kb≠g0∧ks<N0∧ks≠g0
 key:∀i,i<m→∃nd,LeafT nd∧KeyM w (g0+1) ks i nd∧(∀nb c,w.cell? ⟨ks,i*2,none⟩=some (.slice (some ⟨nb,0,none⟩) 1 c)→nb<N0)
theorem KeysW.keep {N0 g0 B ks kb m:Nat} {wb w w':World} (h:KeysW N0 g0 B ks kb m wb w) (hB:B=wb.heap.size) (hE:LibE wb) (h1:B≤N0) (h2:B≤g0) (hk:KP N0 g0 w w'):KeysW N0 g0 B ks kb m wb w' where
 lib:=by
  have:=h.lo.trans (hk.below h1 h2)
  rw [hB] at this
  exact hE.keep this
 lo:=h.lo.trans (hk.below h1 h2)
 box:=hk.cell h.box h.bl.1 h.bl.2.1
 bl:=h.bl
 key:=fun i hi=>by
  obtain⟨nd,hl,⟨nb,c,k0,k1,k2⟩,hn⟩:=h.key i hi
  have q0:=hk.cell k0 h.bl.2.2.1 h.bl.2.2.2
  refine⟨nd,hl,⟨nb,c,q0,hk.cell k1 h.bl.2.2.1 h.bl.2.2.2,hk.own k2 fun g e=>?_⟩,fun nb' c' e=>?_⟩
  ·have:=Option.some.inj e
   subst this
   exact⟨hn _ _ k0,by have h3:g0+1≤nb:=(k2.lt nb rfl).1;show nb≠g0;omega⟩
  ·rw [q0] at e
   injection e with e
   injection e with e1 e2 e3
   injection e1 with e1
   injection e1 with e1
   subst e1
   exact hn _ _ k0
set_option maxRecDepth 20000 in
set_option maxHeartbeats 8000000 in
theorem less_any {N0 g0 B ks kb m:Nat} {wb:World}:LessOK (KeysW N0 g0 B ks kb m wb) m N0 kb:=by
 intro W a b hg hN ha hb
 obtain⟨na,la,⟨nba,ca,p0,p1,p2⟩,_⟩:=hg.key a ha
 obtain⟨nb,lb,⟨nbb,cb,q0,q1,q2⟩,_⟩:=hg.key b hb
 have hGa:Hid (GRd W W.heap.size nba 0 [na]):=grd_one p2 la.keys la.items
 have hGb:Hid (GRd W W.heap.size nbb 0 [nb]):=grd_one q2 lb.keys lb.items
 have x0:W.drew.cell? ⟨kb,0,none⟩=some (.slice (some ⟨ks,0,none⟩) m m):=hg.box
 have y0:W.drew.cell? ⟨ks,a*2,none⟩=some (.slice (some ⟨nba,0,none⟩) 1 ca):=p0
 have y1:W.drew.cell? ⟨ks,a*2+1,none⟩=some (.int .i64 0):=p1
 have z0:W.drew.cell? ⟨ks,b*2,none⟩=some (.slice (some ⟨nbb,0,none⟩) 1 cb):=q0
 have z1:W.drew.cell? ⟨ks,b*2+1,none⟩=some (.int .i64 0):=q1
 have D:=Lib.hid (cCompare_leaf (ca:=ca) (cb:=cb) la.ok lb.ok la.items la.kind la.ord lb.items lb.kind lb.ord W.drew (hg.lib.keep (Below.refl _ _).drew) (hGa.out.below (Below.refl _ _).drew (Nat.le_refl _)) (hGb.out.below (Below.refl _ _).drew (Nat.le_refl _)))
 have a0:(0:Int)≤(a:Int):=by omega
 have b0:(0:Int)≤(b:Int):=by omega
 have a1:(a:Int)<m:=by omega
 have b1:(b:Int)<m:=by omega
 clear hg la lb p0 p1 p2 q0 q1 q2 hGa hGb
 go_enter Tryz.func100,Tryz.ntmps100
 go_upto_region 1 with(fail)
 go_region_held3 (fun w'=>w'.cell? ⟨kb,0,none⟩=some (.slice (some ⟨ks,0,none⟩) m m)∧w'.cell? ⟨ks,a*2,none⟩=some (.slice (some ⟨nba,0,none⟩) 1 ca)∧w'.cell? ⟨ks,a*2+1,none⟩=some (.int .i64 0)∧w'.cell? ⟨ks,b*2,none⟩=some (.slice (some ⟨nbb,0,none⟩) 1 cb)∧w'.cell? ⟨ks,b*2+1,none⟩=some (.int .i64 0)) (first | exact⟨by assumption,by assumption,by assumption,by assumption,by assumption⟩ | go_keep)
  ((go_at_call 101;((with_reducible refine D.out.mono ?_));rintro e w7 ⟨r,c,rfl,hb7⟩;have k0:=(hb7.cell (block_lt_of_cell x0)).trans x0;have k1:=(hb7.cell (block_lt_of_cell y0)).trans y0;have k2:=(hb7.cell (block_lt_of_cell y1)).trans y1;have k3:=(hb7.cell (block_lt_of_cell z0)).trans z0;have k4:=(hb7.cell (block_lt_of_cell z1)).trans z1))
 go_wp2_with (fail)
 go_ret
 exact⟨_,rfl,(Below.refl _ _).drew.trans hb7⟩
end Go.Proofs.YtnnnagnjikdnnaaGreatDoor
