/- Plain: insertion sort by exchanges of neighbours. No program is mentioned here. -/
import Derived.Test.YtnnnagnjikdnnaaGreatDoorMAa
import Derived.Test.YtnnnagnjikdnnaaGreatDoorMAe
import Derived.Test.YtnnnagnjikdnnaaGreatDoorProg
import Derived.Deep.QuietTactic
import Derived.BigQuiet
import Derived.Deep.RegionHeld3
import Derived.IntWalk
import Derived.Test.YtnnnagnjikdnnaaGreatDoorShelf
import Derived.Test.YtnnnagnjikdnnaaGreatDoorMAu
import Derived.Test.YtnnnagnjikdnnaaGreatDoorMAl
import Derived.Maps.OwnSet
import Derived.DeepKeys4
set_option linter.unusedVariables false
set_option linter.unusedSimpArgs false
set_option linter.defProp false
set_option linter.constructorNameAsVariable false
namespace Go.Proofs.YtnnnagnjikdnnaaGreatDoor
def swp (l:List Int) (j:Nat):List Int:=(l.set (j+1) (l.getD j 0)).set j (l.getD (j+1) 0)
def insJ (lt:Int→Int→Bool):Nat→List Int→List Int
 | 0,l=>l
 | j+1,l=>if lt (l.getD (j+1) 0) (l.getD j 0) then insJ lt j (swp l j) else l
def insO (lt:Int→Int→Bool):Nat→Nat→List Int→List Int
 | _,0,l=>l
 | i,m+1,l=>insO lt (i+1) m (insJ lt i l)
def insS (lt:Int→Int→Bool) (l:List Int):List Int:=insO lt 1 (l.length - 1) l
theorem swp_len (l:List Int) (j:Nat):(swp l j).length=l.length:=by simp [swp]
theorem insJ_len (lt:Int→Int→Bool) (j:Nat):∀l,(insJ lt j l).length=l.length:=by
 induction j with
 | zero=>intro l;rfl
 | succ j ih=>
  intro l
  unfold insJ
  split
  ·rw [ih,swp_len]
  ·rfl
theorem insO_len (lt:Int→Int→Bool) (m:Nat):∀i l,(insO lt i m l).length=l.length:=by
 induction m with
 | zero=>intro i l;rfl
 | succ m ih=>intro i l;unfold insO;rw [ih,insJ_len]
theorem insS_len (lt:Int→Int→Bool) (l:List Int):(insS lt l).length=l.length:=insO_len lt _ _ l
theorem swp_mem {l:List Int} {j:Nat} (h:j+1<l.length) {x:Int} (hx:x∈swp l j):x∈l:=by
 unfold swp at hx
 have h1:l.getD (j+1) 0∈l:=by rw [List.getD_eq_getElem?_getD,List.getElem?_eq_getElem h];exact List.getElem_mem h
 have h2:l.getD j 0∈l:=by rw [List.getD_eq_getElem?_getD,List.getElem?_eq_getElem (show j<l.length by omega)];exact List.getElem_mem _
 rcases List.mem_or_eq_of_mem_set hx with h3 | rfl
 ·rcases List.mem_or_eq_of_mem_set h3 with h4 | rfl
  ·exact h4
  ·exact h2
 ·exact h1
theorem insJ_mem (lt:Int→Int→Bool) (j:Nat):∀l,j<l.length→∀x∈insJ lt j l,x∈l:=by
 induction j with
 | zero=>intro l _ x hx;exact hx
 | succ j ih=>
  intro l hl x hx
  unfold insJ at hx
  split at hx
  ·exact swp_mem hl (ih _ (by rw [swp_len];omega) x hx)
  ·exact hx
theorem insO_mem (lt:Int→Int→Bool) (m:Nat):∀i l,i+m≤l.length→∀x∈insO lt i m l,x∈l:=by
 induction m with
 | zero=>intro i l _ x hx;exact hx
 | succ m ih=>
  intro i l hl x hx
  unfold insO at hx
  exact insJ_mem lt i l (by omega) x (ih (i+1) _ (by rw [insJ_len];omega) x hx)
theorem insS_mem (lt:Int→Int→Bool) (l:List Int):∀x∈insS lt l,x∈l:=fun x hx=>by
 by_cases h:l.length=0
 ·unfold insS at hx
  rw [h] at hx
  exact hx
 ·exact insO_mem lt _ _ l (by omega) x hx
theorem swp_nodup {l:List Int} {j:Nat} (h:j+1<l.length) (hn:l.Nodup):(swp l j).Nodup:=by
 have hp:(swp l j).Perm l:=by
  unfold swp
  have e1:l.getD j 0=l[j]:=by rw [List.getD_eq_getElem?_getD,List.getElem?_eq_getElem];rfl
  have e2:l.getD (j+1) 0=l[j+1]:=by rw [List.getD_eq_getElem?_getD,List.getElem?_eq_getElem];rfl
  rw [e1,e2]
  rw [List.perm_iff_count]
  intro a
  rw [List.count_set (by simp;omega),List.count_set (by omega)]
  have:(l.set (j+1) l[j])[j]'(by simp;omega)=l[j]:=by rw [List.getElem_set_ne (by omega)]
  rw [this]
  by_cases ha:l[j]=a <;> by_cases hb:l[j+1]=a <;> simp [ha,hb] <;> first | omega | (have:=List.count_pos_iff.2 (ha▸List.getElem_mem (show j<l.length by omega));omega) | (have:=List.count_pos_iff.2 (hb▸List.getElem_mem h);omega)
 exact hp.nodup_iff.2 hn
end Go.Proofs.YtnnnagnjikdnnaaGreatDoor
namespace Go.Proofs.YtnnnagnjikdnnaaGreatDoor
open Go.RowKit
structure SortS (blk n:Nat) (g:FuncId) (x y:Nat) (cf:Int→Int→Int) (S:List Int→World→Prop):Prop where
 len:∀l w,S l w→l.length=n
 cell:∀l w i,S l w→i<n→w.cell? ⟨blk,i,none⟩=some (.int .i64 (l.getD i 0))∧w.frozen? ⟨blk,i,none⟩=false
 swap:∀l w j,S l w→j+1<n→S (swp l j) ((w.setCell ⟨blk,j+1,none⟩ (.int .i64 (l.getD j 0))).setCell ⟨blk,j,none⟩ (.int .i64 (l.getD (j+1) 0)))
 drew:∀l w k,S l w→S l (w.drewN k)
 cmp:∀l w j,S l w→j+1<n→Calls Tryz.prog g #[.int .i64 (l.getD (j+1) 0),.int .i64 (l.getD j 0),.pointer (some ⟨x,0,none⟩),.pointer (some ⟨y,0,none⟩)] w fun e w'=>e=.returned (.int .i64 (cf (l.getD (j+1) 0) (l.getD j 0)))∧S l w'
set_option maxRecDepth 100000 in
set_option maxHeartbeats 4000000 in
theorem insertion_e {blk c n x y:Nat} {cf:Int→Int→Int} {S:List Int→World→Prop} (hS:SortS blk n 87 x y cf S) (hn:n≤12) (l:List Int) (w:World) (h:S l w) :
  Calls Tryz.prog 125 #[.slice (some ⟨blk,0,none⟩) n c,.int .i64 0,.int .i64 (n:Int),.func (.func 87) #[] #[.pointer (some ⟨x,0,none⟩),.pointer (some ⟨y,0,none⟩)]] w fun e w'=>e=.returned (.tuple #[])∧S (insS (fun a b=>decide (cf a b<0)) l) w':=by
 obtain⟨R,hR⟩:∃R,insS (fun a b=>decide (cf a b<0)) l=R:=⟨_,rfl⟩
 have h0:Hid (insO (fun a b=>decide (cf a b<0)) 1 (n - 1) l=R):=by show _=_;rw [←hR];unfold insS;rw [hS.len l w h]
 have HS:=Lib.hid hS
 have H0:=Lib.hid h
 rw [hR]
 clear hR hS h
 go_enter Tryz.func125,Tryz.ntmps125
 go_wp2_with (fail)
 go_loopw [8] (fun v wr=>∃(i:Nat) (l1:List Int),v=.int .i64 (i:Int)∧1≤i∧i≤n+1∧Hid (S l1 wr)∧Hid (insO (fun a b=>decide (cf a b<0)) i (n - i) l1=R)) (fun v _=>13 - (intOf v).toNat)
 case atStart=>exact⟨1,l,by go_num,Nat.le_refl _,by omega,H0,h0⟩
 case round=>
  clear H0 h0
  obtain⟨i,l1,rfl,hi1,hin,h1,h2⟩:=hrel
  by_cases hlt:i<n
  ·have hlt':(i:Int)<n:=by omega
   have h3:Hid (insO (fun a b=>decide (cf a b<0)) (i+1) (n - (i+1)) (insJ (fun a b=>decide (cf a b<0)) i l1)=R):=by
    show _=_
    rw [←h2.out,show n - i=(n - (i+1))+1 by omega];rfl
   clear h2
   go_wp2_with (fail)
   go_loopw [9] (fun v wr2=>∃(j:Nat) (l2:List Int),v=.int .i64 (j:Int)∧j≤i∧Hid (S l2 wr2)∧Hid (insO (fun a b=>decide (cf a b<0)) (i+1) (n - (i+1)) (insJ (fun a b=>decide (cf a b<0)) j l2)=R)) (fun v _=>(intOf v).toNat)
   case atStart=>exact⟨i,l1,rfl,Nat.le_refl _,h1,h3⟩
   case round=>
    clear h1 h3
    obtain⟨j,l2,rfl,hji,h4,h5⟩:=hrel
    obtain⟨w2,hw2⟩:∃x:World,x=wr:=⟨_,rfl⟩
    subst hw2
    by_cases hj0:j=0
    ·have hd:decide (0<j)=false:=decide_eq_false (by omega)
     have h6:Hid (insO (fun a b=>decide (cf a b<0)) (i+1) (n - (i+1)) l2=R):=by
      show _=_
      rw [←h5.out,hj0];rfl
     clear h5 hj0
     go_upto_region 4 with(fail)
     go_quiet (fail)
     have h7:=Lib.hid (HS.out.drew _ _ nq h4.out)
     generalize w2.drewN nq=w3 at *
     go_wp2_with (fail)
     go_roundw
     case rel=>exact⟨i+1,l2,i64e (by omega),by omega,by omega,h7,h6⟩
     case measure=>simp [intOf];omega
    ·obtain⟨jp,hjp⟩:∃jp,j=jp+1:=⟨j - 1,by omega⟩
     have hjn:jp+1<n:=by omega
     have D:=Lib.hid (HS.out.cmp l2 w2.drew jp (HS.out.drew l2 w2 1 h4.out) hjn)
     obtain⟨c1,f1⟩:=HS.out.cell l2 w2.drew (jp+1) (HS.out.drew l2 w2 1 h4.out) hjn
     obtain⟨c0,f0⟩:=HS.out.cell l2 w2.drew jp (HS.out.drew l2 w2 1 h4.out) (by omega)
     go_upto_region 4 with(fail)
     obtain⟨X,hX⟩:∃X,l2.getD jp 0=X:=⟨_,rfl⟩
     obtain⟨Y,hY⟩:∃Y,l2.getD (jp+1) 0=Y:=⟨_,rfl⟩
     obtain⟨r,hr⟩:∃r,cf Y X=r:=⟨_,rfl⟩
     have HX:=Lib.hid hX
     have HY:=Lib.hid hY
     have HR:=Lib.hid hr
     rw [hX,hY,hr] at D
     rw [hX] at c0
     rw [hY] at c1
     have h8:Hid (insJ (fun a b=>decide (cf a b<0)) j l2=if r<0 then insJ (fun a b=>decide (cf a b<0)) jp (swp l2 jp) else l2):=by
      show _=_
      rw [hjp,insJ,HX.out,HY.out,←HR.out]
      simp
     rw [←hjp] at c1 f1
     have HJP:=Lib.hid hjp
     have hd:decide (0<j)=true:=decide_eq_true (by omega)
     have hp0:(0:Int)≤(jp:Int):=by omega
     have hp1:(jp:Int)<(n:Int):=by omega
     have hq0:(0:Int)≤(j:Int):=by omega
     have hq1:(j:Int)<(n:Int):=by omega
     have hw:IntKind.i64.wrap ((j:Int) - 1)=(jp:Int):=by rw [IntWalk.i64_in _ (by omega)];omega
     have hjn':j<n:=by omega
     have hjpn:jp<n:=by omega
     clear hX hY hr h4 hjp hj0
     go_region_held3 (fun w'=>w'.cell? ⟨blk,j,none⟩=some (.int .i64 Y)∧w'.cell? ⟨blk,jp,none⟩=some (.int .i64 X)) (first | exact⟨by assumption,by assumption⟩ | go_keep) ((go_at_call 87;((with_reducible refine D.out.mono ?_));rintro e w5 ⟨rfl,hS5⟩;have hS5':=Lib.hid hS5;obtain⟨c1',f1'⟩:=HS.out.cell l2 w5 j hS5 hjn';obtain⟨c0',f0'⟩:=HS.out.cell l2 w5 jp hS5 hjpn;rw [HX.out] at c0';rw [HJP.out,HY.out,←HJP.out] at c1'))
     clear c0 c1 f0 f1 D
     by_cases hr0:r<0
     ·have h9:Hid (insO (fun a b=>decide (cf a b<0)) (i+1) (n - (i+1)) (insJ (fun a b=>decide (cf a b<0)) jp (swp l2 jp))=R):=by
       have h:=h8.out
       rw [if_pos hr0] at h
       show _=_
       rw [←h];exact h5.out
      have h10:Hid (S (swp l2 jp) ((w5.drew.setCell ⟨blk,j,none⟩ (.int .i64 X)).setCell ⟨blk,jp,none⟩ (.int .i64 Y))):=by
       have h:=HS.out.swap l2 w5.drew jp (HS.out.drew l2 w5 1 hS5'.out) hjn
       rw [HX.out,HY.out,←HJP.out] at h
       exact h
      have e0:w5.drew.cell? ⟨blk,jp,none⟩=some (.int .i64 X):=c0'
      have e1:w5.drew.cell? ⟨blk,j,none⟩=some (.int .i64 Y):=c1'
      have e2:w5.drew.frozen? ⟨blk,jp,none⟩=false:=f0'
      have e3:w5.drew.frozen? ⟨blk,j,none⟩=false:=f1'
      have hjne:¬jp=j:=by have:=HJP.out;omega
      have hjne2:¬j=jp:=by have:=HJP.out;omega
      have hji2:jp≤i:=by have:=HJP.out;omega
      clear h8 h5 hS5' e0 e1 e2 e3
      go_upto_region 6 with(fail)
      go_region
      go_wp2_with (fail)
      go_roundw
      case rel=>exact⟨jp,swp l2 jp,rfl,hji2,h10,h9⟩
      case measure=>have:=HJP.out;clear hw;simp [intOf];omega
     ·have h9:Hid (insO (fun a b=>decide (cf a b<0)) (i+1) (n - (i+1)) l2=R):=by
       have h:=h8.out
       rw [if_neg hr0] at h
       show _=_
       rw [←h5.out,h]
      clear h8 h5 c0' c1' f0' f1'
      go_wp2_with (fail)
      go_roundw
      case rel=>exact⟨i+1,l2,i64e (by omega),by omega,by omega,hS5',h9⟩
      case measure=>simp [intOf];omega
  ·go_wp2_with (fail)
   go_end0
   refine⟨rfl,?_⟩
   have h3:=h2.out
   rw [show n - i=0 by omega] at h3
   rw [←h3]
   exact h1.out
set_option maxRecDepth 100000 in
set_option maxHeartbeats 4000000 in
theorem insertion_i {blk c n x y:Nat} {cf:Int→Int→Int} {S:List Int→World→Prop} (hS:SortS blk n 70 x y cf S) (hn:n≤12) (l:List Int) (w:World) (h:S l w) :
  Calls Tryz.prog 125 #[.slice (some ⟨blk,0,none⟩) n c,.int .i64 0,.int .i64 (n:Int),.func (.func 70) #[] #[.pointer (some ⟨x,0,none⟩),.pointer (some ⟨y,0,none⟩)]] w fun e w'=>e=.returned (.tuple #[])∧S (insS (fun a b=>decide (cf a b<0)) l) w':=by
 obtain⟨R,hR⟩:∃R,insS (fun a b=>decide (cf a b<0)) l=R:=⟨_,rfl⟩
 have h0:Hid (insO (fun a b=>decide (cf a b<0)) 1 (n - 1) l=R):=by show _=_;rw [←hR];unfold insS;rw [hS.len l w h]
 have HS:=Lib.hid hS
 have H0:=Lib.hid h
 rw [hR]
 clear hR hS h
 go_enter Tryz.func125,Tryz.ntmps125
 go_wp2_with (fail)
 go_loopw [8] (fun v wr=>∃(i:Nat) (l1:List Int),v=.int .i64 (i:Int)∧1≤i∧i≤n+1∧Hid (S l1 wr)∧Hid (insO (fun a b=>decide (cf a b<0)) i (n - i) l1=R)) (fun v _=>13 - (intOf v).toNat)
 case atStart=>exact⟨1,l,by go_num,Nat.le_refl _,by omega,H0,h0⟩
 case round=>
  clear H0 h0
  obtain⟨i,l1,rfl,hi1,hin,h1,h2⟩:=hrel
  by_cases hlt:i<n
  ·have hlt':(i:Int)<n:=by omega
   have h3:Hid (insO (fun a b=>decide (cf a b<0)) (i+1) (n - (i+1)) (insJ (fun a b=>decide (cf a b<0)) i l1)=R):=by
    show _=_
    rw [←h2.out,show n - i=(n - (i+1))+1 by omega];rfl
   clear h2
   go_wp2_with (fail)
   go_loopw [9] (fun v wr2=>∃(j:Nat) (l2:List Int),v=.int .i64 (j:Int)∧j≤i∧Hid (S l2 wr2)∧Hid (insO (fun a b=>decide (cf a b<0)) (i+1) (n - (i+1)) (insJ (fun a b=>decide (cf a b<0)) j l2)=R)) (fun v _=>(intOf v).toNat)
   case atStart=>exact⟨i,l1,rfl,Nat.le_refl _,h1,h3⟩
   case round=>
    clear h1 h3
    obtain⟨j,l2,rfl,hji,h4,h5⟩:=hrel
    obtain⟨w2,hw2⟩:∃x:World,x=wr:=⟨_,rfl⟩
    subst hw2
    by_cases hj0:j=0
    ·have hd:decide (0<j)=false:=decide_eq_false (by omega)
     have h6:Hid (insO (fun a b=>decide (cf a b<0)) (i+1) (n - (i+1)) l2=R):=by
      show _=_
      rw [←h5.out,hj0];rfl
     clear h5 hj0
     go_upto_region 4 with(fail)
     go_quiet (fail)
     have h7:=Lib.hid (HS.out.drew _ _ nq h4.out)
     generalize w2.drewN nq=w3 at *
     go_wp2_with (fail)
     go_roundw
     case rel=>exact⟨i+1,l2,i64e (by omega),by omega,by omega,h7,h6⟩
     case measure=>simp [intOf];omega
    ·obtain⟨jp,hjp⟩:∃jp,j=jp+1:=⟨j - 1,by omega⟩
     have hjn:jp+1<n:=by omega
     have D:=Lib.hid (HS.out.cmp l2 w2.drew jp (HS.out.drew l2 w2 1 h4.out) hjn)
     obtain⟨c1,f1⟩:=HS.out.cell l2 w2.drew (jp+1) (HS.out.drew l2 w2 1 h4.out) hjn
     obtain⟨c0,f0⟩:=HS.out.cell l2 w2.drew jp (HS.out.drew l2 w2 1 h4.out) (by omega)
     go_upto_region 4 with(fail)
     obtain⟨X,hX⟩:∃X,l2.getD jp 0=X:=⟨_,rfl⟩
     obtain⟨Y,hY⟩:∃Y,l2.getD (jp+1) 0=Y:=⟨_,rfl⟩
     obtain⟨r,hr⟩:∃r,cf Y X=r:=⟨_,rfl⟩
     have HX:=Lib.hid hX
     have HY:=Lib.hid hY
     have HR:=Lib.hid hr
     rw [hX,hY,hr] at D
     rw [hX] at c0
     rw [hY] at c1
     have h8:Hid (insJ (fun a b=>decide (cf a b<0)) j l2=if r<0 then insJ (fun a b=>decide (cf a b<0)) jp (swp l2 jp) else l2):=by
      show _=_
      rw [hjp,insJ,HX.out,HY.out,←HR.out]
      simp
     rw [←hjp] at c1 f1
     have HJP:=Lib.hid hjp
     have hd:decide (0<j)=true:=decide_eq_true (by omega)
     have hp0:(0:Int)≤(jp:Int):=by omega
     have hp1:(jp:Int)<(n:Int):=by omega
     have hq0:(0:Int)≤(j:Int):=by omega
     have hq1:(j:Int)<(n:Int):=by omega
     have hw:IntKind.i64.wrap ((j:Int) - 1)=(jp:Int):=by rw [IntWalk.i64_in _ (by omega)];omega
     have hjn':j<n:=by omega
     have hjpn:jp<n:=by omega
     clear hX hY hr h4 hjp hj0
     go_region_held3 (fun w'=>w'.cell? ⟨blk,j,none⟩=some (.int .i64 Y)∧w'.cell? ⟨blk,jp,none⟩=some (.int .i64 X)) (first | exact⟨by assumption,by assumption⟩ | go_keep) ((go_at_call 70;((with_reducible refine D.out.mono ?_));rintro e w5 ⟨rfl,hS5⟩;have hS5':=Lib.hid hS5;obtain⟨c1',f1'⟩:=HS.out.cell l2 w5 j hS5 hjn';obtain⟨c0',f0'⟩:=HS.out.cell l2 w5 jp hS5 hjpn;rw [HX.out] at c0';rw [HJP.out,HY.out,←HJP.out] at c1'))
     clear c0 c1 f0 f1 D
     by_cases hr0:r<0
     ·have h9:Hid (insO (fun a b=>decide (cf a b<0)) (i+1) (n - (i+1)) (insJ (fun a b=>decide (cf a b<0)) jp (swp l2 jp))=R):=by
       have h:=h8.out
       rw [if_pos hr0] at h
       show _=_
       rw [←h];exact h5.out
      have h10:Hid (S (swp l2 jp) ((w5.drew.setCell ⟨blk,j,none⟩ (.int .i64 X)).setCell ⟨blk,jp,none⟩ (.int .i64 Y))):=by
       have h:=HS.out.swap l2 w5.drew jp (HS.out.drew l2 w5 1 hS5'.out) hjn
       rw [HX.out,HY.out,←HJP.out] at h
       exact h
      have e0:w5.drew.cell? ⟨blk,jp,none⟩=some (.int .i64 X):=c0'
      have e1:w5.drew.cell? ⟨blk,j,none⟩=some (.int .i64 Y):=c1'
      have e2:w5.drew.frozen? ⟨blk,jp,none⟩=false:=f0'
      have e3:w5.drew.frozen? ⟨blk,j,none⟩=false:=f1'
      have hjne:¬jp=j:=by have:=HJP.out;omega
      have hjne2:¬j=jp:=by have:=HJP.out;omega
      have hji2:jp≤i:=by have:=HJP.out;omega
      clear h8 h5 hS5' e0 e1 e2 e3
      go_upto_region 6 with(fail)
      go_region
      go_wp2_with (fail)
      go_roundw
      case rel=>exact⟨jp,swp l2 jp,rfl,hji2,h10,h9⟩
      case measure=>have:=HJP.out;clear hw;simp [intOf];omega
     ·have h9:Hid (insO (fun a b=>decide (cf a b<0)) (i+1) (n - (i+1)) l2=R):=by
       have h:=h8.out
       rw [if_neg hr0] at h
       show _=_
       rw [←h5.out,h]
      clear h8 h5 c0' c1' f0' f1'
      go_wp2_with (fail)
      go_roundw
      case rel=>exact⟨i+1,l2,i64e (by omega),by omega,by omega,hS5',h9⟩
      case measure=>simp [intOf];omega
  ·go_wp2_with (fail)
   go_end0
   refine⟨rfl,?_⟩
   have h3:=h2.out
   rw [show n - i=0 by omega] at h3
   rw [←h3]
   exact h1.out
end Go.Proofs.YtnnnagnjikdnnaaGreatDoor
namespace Go.Proofs.YtnnnagnjikdnnaaGreatDoor
open Go.RowKit
set_option maxRecDepth 20000 in
theorem bits_len (n:Nat) (hn:n≤12) (w:World):Calls Tryz.prog 105 #[.int .u64 (n:Int)] w fun e w'=>e=.returned (.int .i64 (Lib.bitLen n))∧w=w':=by
 have D:=Lib.hid (Tryz.bits_Len64 (n:Int) w (by omega) (by omega))
 rw [Int.toNat_natCast] at D
 generalize Lib.bitLen n=b at *
 go_enter Tryz.func105,Tryz.ntmps105
 go_wp2_with (go_at_call 134;((with_reducible refine D.out.mono ?_));rintro e w5 ⟨rfl,rfl⟩)
 go_ret
 exact⟨rfl,rfl⟩
set_option maxRecDepth 100000 in
set_option maxHeartbeats 4000000 in
theorem pdq_e {blk c n x y:Nat} {lim:Int} {cf:Int→Int→Int} {S:List Int→World→Prop} (hS:SortS blk n 87 x y cf S) (hn:n≤12) (l:List Int) (w:World) (h:S l w) :
  Calls Tryz.prog 104 #[.slice (some ⟨blk,0,none⟩) n c,.int .i64 0,.int .i64 (n:Int),.int .i64 lim,.func (.func 87) #[] #[.pointer (some ⟨x,0,none⟩),.pointer (some ⟨y,0,none⟩)]] w fun e w'=>e=.returned (.tuple #[])∧S (insS (fun a b=>decide (cf a b<0)) l) w':=by
 have D:=Lib.hid (insertion_e (c:=c) hS hn l w h)
 generalize insS (fun a b=>decide (cf a b<0)) l=R at *
 have hn':(n:Int)≤12:=by omega
 clear hS h
 go_enter Tryz.func104,Tryz.ntmps104
 go_wp2_with (fail)
 refine wp_loop_rounds 1 ?_
 rw [rounds_succ]
 go_wp2_with (go_at_call 125;((with_reducible refine D.out.mono ?_));rintro e w5 ⟨rfl,h5⟩)
 (try simp only [Exit.inBlock,Exit.then])
 refine bodyPost_ret (results_none rfl _ _ _) rfl ?_
 exact⟨rfl,h5⟩
set_option maxRecDepth 100000 in
set_option maxHeartbeats 4000000 in
theorem sortf_e {blk c n x y:Nat} {cf:Int→Int→Int} {S:List Int→World→Prop} (hS:SortS blk n 87 x y cf S) (hn:n≤12) (l:List Int) (w:World) (h:S l w) :
  Calls Tryz.prog 69 #[.slice (some ⟨blk,0,none⟩) n c,.func (.func 87) #[] #[.pointer (some ⟨x,0,none⟩),.pointer (some ⟨y,0,none⟩)]] w fun e w'=>e=.returned (.tuple #[])∧S (insS (fun a b=>decide (cf a b<0)) l) w':=by
 have D:=Lib.hid (fun lim=>pdq_e (c:=c) (lim:=lim) hS hn l w h)
 generalize insS (fun a b=>decide (cf a b<0)) l=R at *
 have hn':(n:Int)≤12:=by omega
 have hlen:=Lib.hid (bits_len n hn)
 clear hS h
 go_enter Tryz.func69,Tryz.ntmps69
 go_wp2_with (first | (go_at_call 105;((with_reducible refine(hlen.out _).mono ?_));rintro e w5 ⟨rfl,rfl⟩) | (go_at_call 104;((with_reducible refine(D.out _).mono ?_));rintro e w6 ⟨rfl,h6⟩))
 go_end0
 exact⟨rfl,h6⟩
set_option maxRecDepth 100000 in
set_option maxHeartbeats 4000000 in
theorem pdq_i {blk c n x y:Nat} {lim:Int} {cf:Int→Int→Int} {S:List Int→World→Prop} (hS:SortS blk n 70 x y cf S) (hn:n≤12) (l:List Int) (w:World) (h:S l w) :
  Calls Tryz.prog 104 #[.slice (some ⟨blk,0,none⟩) n c,.int .i64 0,.int .i64 (n:Int),.int .i64 lim,.func (.func 70) #[] #[.pointer (some ⟨x,0,none⟩),.pointer (some ⟨y,0,none⟩)]] w fun e w'=>e=.returned (.tuple #[])∧S (insS (fun a b=>decide (cf a b<0)) l) w':=by
 have D:=Lib.hid (insertion_i (c:=c) hS hn l w h)
 generalize insS (fun a b=>decide (cf a b<0)) l=R at *
 have hn':(n:Int)≤12:=by omega
 clear hS h
 go_enter Tryz.func104,Tryz.ntmps104
 go_wp2_with (fail)
 refine wp_loop_rounds 1 ?_
 rw [rounds_succ]
 go_wp2_with (go_at_call 125;((with_reducible refine D.out.mono ?_));rintro e w5 ⟨rfl,h5⟩)
 (try simp only [Exit.inBlock,Exit.then])
 refine bodyPost_ret (results_none rfl _ _ _) rfl ?_
 exact⟨rfl,h5⟩
set_option maxRecDepth 100000 in
set_option maxHeartbeats 4000000 in
theorem sortf_i {blk c n x y:Nat} {cf:Int→Int→Int} {S:List Int→World→Prop} (hS:SortS blk n 70 x y cf S) (hn:n≤12) (l:List Int) (w:World) (h:S l w) :
  Calls Tryz.prog 69 #[.slice (some ⟨blk,0,none⟩) n c,.func (.func 70) #[] #[.pointer (some ⟨x,0,none⟩),.pointer (some ⟨y,0,none⟩)]] w fun e w'=>e=.returned (.tuple #[])∧S (insS (fun a b=>decide (cf a b<0)) l) w':=by
 have D:=Lib.hid (fun lim=>pdq_i (c:=c) (lim:=lim) hS hn l w h)
 generalize insS (fun a b=>decide (cf a b<0)) l=R at *
 have hn':(n:Int)≤12:=by omega
 have hlen:=Lib.hid (bits_len n hn)
 clear hS h
 go_enter Tryz.func69,Tryz.ntmps69
 go_wp2_with (first | (go_at_call 105;((with_reducible refine(hlen.out _).mono ?_));rintro e w5 ⟨rfl,rfl⟩) | (go_at_call 104;((with_reducible refine(D.out _).mono ?_));rintro e w6 ⟨rfl,h6⟩))
 go_end0
 exact⟨rfl,h6⟩
end Go.Proofs.YtnnnagnjikdnnaaGreatDoor
namespace Go.Proofs.YtnnnagnjikdnnaaGreatDoor
open Go.RowKit Go.Maps
open Go.WideMaps (KeyLaw)
def RetI (B:Nat) (w:World) (e:Ending) (w':World):Prop:=∃r:Int,e=.returned (.int .i64 r)∧Below B w w'
def RetD (D sa sb:Nat) (w:World) (e:Ending) (w':World):Prop:=∃r:Int,e=.returned (.int .i64 r)∧Below D w w'∧∀b,b<w.heap.size→b≠sa→b≠sb→w'.heap[b]? = w.heap[b]?
theorem leaf_cells {w:World} {B g:Nat} {nd:GNode} (hG:GRd w B g 0 [nd]) (hk:nd.kind=5) (ho:nd.ord=false):w.cell? ⟨g,0,none⟩=some (.int .i64 5)∧w.cell? ⟨g,1,none⟩=some (.string (mks nd.text))∧w.cell? ⟨g,2,none⟩=some (.bool false):=by
 obtain⟨K,ck,I,ci,c0,c1,c2,_⟩:=hG.of_at (i:=0) (by simp)
 have e0:ndAt [nd] 0=nd:=rfl
 rw [e0] at c0 c1 c2
 rw [hk] at c0
 rw [ho] at c2
 exact⟨c0,c1,c2⟩
set_option maxRecDepth 20000 in
set_option maxHeartbeats 8000000 in
theorem cdiffer_leaf {B D ta sa ga ca tb sb gb cb:Nat} {na nb:GNode} (mv:Value) (a2:na.items = []) (ak:na.kind=5) (ao:na.ord=false) (b2:nb.items = []) (bk:nb.kind=5) (bo:nb.ord=false) (w:World) (hA:GRd w B ga 0 [na]) (hB:GRd w B gb 0 [nb])
  (hTA:TabR w ta sa ga ca) (hTB:TabR w tb sb gb cb) (hD:D≤w.heap.size) (hsa:D≤sa) (hsb:D≤sb) (hBa:B≤sa) (n1:sa≠sb) (n2:sa≠tb) :
  Calls Tryz.prog 118 #[.pointer (some ⟨ta,0,none⟩),.int .i64 0,.pointer (some ⟨tb,0,none⟩),.int .i64 0,mv] w (RetD D sa sb w):=by
 obtain⟨a0,a1,a3⟩:=leaf_cells hA ak ao
 obtain⟨b0,b1,b3⟩:=leaf_cells hB bk bo
 have t0:=hTA.tab.cell' (i:=0) rfl
 have u0:=hTB.tab.cell' (i:=0) rfl
 generalize mks na.text=sx at *
 generalize mks nb.text=sy at *
 obtain⟨r,hr⟩:∃r,sclV sx sy=r:=⟨_,rfl⟩
 have DS:=Lib.hid (fun w'=>cscalar_any sx sy w')
 rw [hr] at DS
 have D1:=Lib.hid (fun(w':World) (hG:GRd w' B ga 0 [na]) (hT:TabR w' ta sa ga ca)=>centries_leaf a2 ak w' hG hT)
 have D2:=Lib.hid (fun(w':World) (hG:GRd w' B gb 0 [nb]) (hT:TabR w' tb sb gb cb)=>centries_leaf b2 bk w' hG hT)
 have HA:=Lib.hid hA
 have HB:=Lib.hid hB
 have HTA:=Lib.hid hTA
 have HTB:=Lib.hid hTB
 clear hr hA hB hTA hTB a2 ak ao b2 bk bo
 go_enter Tryz.func118,Tryz.ntmps118
 go_upto_region 1 with(fail)
 go_quiet (fail)
 have hbq:Below w.heap.size w (w.drewN nq):=Below.drewN' (Below.refl _ _) nq
 replace a0:=(hbq.cell (block_lt_of_cell a0)).trans a0
 replace a1:=(hbq.cell (block_lt_of_cell a1)).trans a1
 replace a3:=(hbq.cell (block_lt_of_cell a3)).trans a3
 replace b0:=(hbq.cell (block_lt_of_cell b0)).trans b0
 replace b1:=(hbq.cell (block_lt_of_cell b1)).trans b1
 replace b3:=(hbq.cell (block_lt_of_cell b3)).trans b3
 replace t0:=(hbq.cell (block_lt_of_cell t0)).trans t0
 replace u0:=(hbq.cell (block_lt_of_cell u0)).trans u0
 replace HA:=Lib.hid (HA.out.below hbq HA.out.2.1)
 replace HB:=Lib.hid (HB.out.below hbq HB.out.2.1)
 replace HTA:=Lib.hid (HTA.out.keep hbq)
 replace HTB:=Lib.hid (HTB.out.keep hbq)
 have hDW:Hid (Below w.heap.size w (w.drewN nq)):=hbq
 clear hbq
 generalize (w.drewN nq)=w1 at *
 go_upto_region 2 with(fail)
 go_quiet (fail)
 have hbq:Below w1.heap.size w1 (w1.drewN nq):=Below.drewN' (Below.refl _ _) nq
 replace a0:=(hbq.cell (block_lt_of_cell a0)).trans a0
 replace a1:=(hbq.cell (block_lt_of_cell a1)).trans a1
 replace a3:=(hbq.cell (block_lt_of_cell a3)).trans a3
 replace b0:=(hbq.cell (block_lt_of_cell b0)).trans b0
 replace b1:=(hbq.cell (block_lt_of_cell b1)).trans b1
 replace b3:=(hbq.cell (block_lt_of_cell b3)).trans b3
 replace t0:=(hbq.cell (block_lt_of_cell t0)).trans t0
 replace u0:=(hbq.cell (block_lt_of_cell u0)).trans u0
 replace HA:=Lib.hid (HA.out.below hbq HA.out.2.1)
 replace HB:=Lib.hid (HB.out.below hbq HB.out.2.1)
 replace HTA:=Lib.hid (HTA.out.keep hbq)
 replace HTB:=Lib.hid (HTB.out.keep hbq)
 replace hDW:=Lib.hid (hDW.out.trans (hbq.mono hDW.out.size))
 clear hbq
 generalize (w1.drewN nq)=w2 at *
 go_upto_region 4 with(fail)
 go_quiet (fail)
 have hbq:Below w2.heap.size w2 (w2.drewN nq):=Below.drewN' (Below.refl _ _) nq
 replace a0:=(hbq.cell (block_lt_of_cell a0)).trans a0
 replace a1:=(hbq.cell (block_lt_of_cell a1)).trans a1
 replace a3:=(hbq.cell (block_lt_of_cell a3)).trans a3
 replace b0:=(hbq.cell (block_lt_of_cell b0)).trans b0
 replace b1:=(hbq.cell (block_lt_of_cell b1)).trans b1
 replace b3:=(hbq.cell (block_lt_of_cell b3)).trans b3
 replace t0:=(hbq.cell (block_lt_of_cell t0)).trans t0
 replace u0:=(hbq.cell (block_lt_of_cell u0)).trans u0
 replace HA:=Lib.hid (HA.out.below hbq HA.out.2.1)
 replace HB:=Lib.hid (HB.out.below hbq HB.out.2.1)
 replace HTA:=Lib.hid (HTA.out.keep hbq)
 replace HTB:=Lib.hid (HTB.out.keep hbq)
 replace hDW:=Lib.hid (hDW.out.trans (hbq.mono hDW.out.size))
 clear hbq
 generalize (w2.drewN nq)=w3 at *
 go_upto_region 6 with(fail)
 go_quiet (fail)
 have hbq:Below w3.heap.size w3 (w3.drewN nq):=Below.drewN' (Below.refl _ _) nq
 replace a0:=(hbq.cell (block_lt_of_cell a0)).trans a0
 replace a1:=(hbq.cell (block_lt_of_cell a1)).trans a1
 replace a3:=(hbq.cell (block_lt_of_cell a3)).trans a3
 replace b0:=(hbq.cell (block_lt_of_cell b0)).trans b0
 replace b1:=(hbq.cell (block_lt_of_cell b1)).trans b1
 replace b3:=(hbq.cell (block_lt_of_cell b3)).trans b3
 replace t0:=(hbq.cell (block_lt_of_cell t0)).trans t0
 replace u0:=(hbq.cell (block_lt_of_cell u0)).trans u0
 replace HA:=Lib.hid (HA.out.below hbq HA.out.2.1)
 replace HB:=Lib.hid (HB.out.below hbq HB.out.2.1)
 replace HTA:=Lib.hid (HTA.out.keep hbq)
 replace HTB:=Lib.hid (HTB.out.keep hbq)
 replace hDW:=Lib.hid (hDW.out.trans (hbq.mono hDW.out.size))
 clear hbq
 generalize (w3.drewN nq)=w4 at *
 go_upto_region 10 with(fail)
 go_quiet (((go_at_call 149;exact Calls.quiet_of_same (DS.out _))))
 have hbq:Below w4.heap.size w4 (w4.drewN nq):=Below.drewN' (Below.refl _ _) nq
 replace a0:=(hbq.cell (block_lt_of_cell a0)).trans a0
 replace a1:=(hbq.cell (block_lt_of_cell a1)).trans a1
 replace a3:=(hbq.cell (block_lt_of_cell a3)).trans a3
 replace b0:=(hbq.cell (block_lt_of_cell b0)).trans b0
 replace b1:=(hbq.cell (block_lt_of_cell b1)).trans b1
 replace b3:=(hbq.cell (block_lt_of_cell b3)).trans b3
 replace t0:=(hbq.cell (block_lt_of_cell t0)).trans t0
 replace u0:=(hbq.cell (block_lt_of_cell u0)).trans u0
 replace HA:=Lib.hid (HA.out.below hbq HA.out.2.1)
 replace HB:=Lib.hid (HB.out.below hbq HB.out.2.1)
 replace HTA:=Lib.hid (HTA.out.keep hbq)
 replace HTB:=Lib.hid (HTB.out.keep hbq)
 replace hDW:=Lib.hid (hDW.out.trans (hbq.mono hDW.out.size))
 clear hbq
 generalize (w4.drewN nq)=w5 at *
 clear a0 a1 a3 b0 b1 b3 t0 u0
 by_cases hr0:r=0
 ·subst hr0
  go_upto_region 14 with(first
   | (go_at_call 59;((with_reducible refine(D1.out _ HA.out HTA.out).mono ?_));rintro e w6 ⟨oa,rfl,hg6⟩;have HB6:=HB.out.grown hg6 (by omega);have HTB6:TabR w6 tb sb gb cb:=⟨HTB.out.tab.grown hg6 (fun e=>n2 (Option.some.inj e).symm),HTB.out.srt.grown hg6 (fun e=>n1 (Option.some.inj e).symm)⟩)
   | (go_at_call 59;((with_reducible refine(D2.out _ HB6 HTB6).mono ?_));rintro e w7 ⟨ob,rfl,hg7⟩))
  have hD6:Below D w w6:=below_row (hDW.out.mono hD) hg6 (by have:=hDW.out.size;omega) hsa
  have hD7:Hid (Below D w w7):=below_row hD6 hg7 (by have:=hD6.size;omega) hsb
  have hkp:Hid (∀b,b<w.heap.size→b≠sa→b≠sb→w7.heap[b]? = w.heap[b]?):=fun b hb h1 h2=>by
   have hs5:=hDW.out.size
   have hs6:=hg6.size
   exact(hg7.block b (by omega) (fun e=>h2 (Option.some.inj e))).trans ((hg6.block b (by omega) (fun e=>h1 (Option.some.inj e))).trans (hDW.out.block b hb))
  clear D1 D2 HA HB HTA HTB HB6 HTB6 hD6 hg6 hg7 DS
  go_upto_region 15 with(fail)
  go_loop [94] (fun v=>v=.int .i64 0) (fun _=>0)
  case atStart=>rfl
  case round=>
   obtain rfl:=hrel
   go_wp2_with (fail)
   go_ret
   exact⟨0,rfl,hD7.out,hkp.out⟩
 ·have hr1:(r != 0)=true:=by simpa using hr0
  go_wp2_with (fail)
  go_ret
  exact⟨r,rfl,hDW.out.mono hD,fun b hb _ _=>hDW.out.block b hb⟩
theorem pair_law:KeyLaw Tryz.prog 170:=
 deep_law_laid (m:=3) (by kernel_rfl) (by omega) (of_decide_eq_true (by kernel_rfl)) (by kernel_rfl) (by kernel_rfl)
theorem under_pairs:Tryz.prog.underlying 169=some (.map 170 3):=by kernel_rfl
theorem zero_int1 (u:World):(zeroValue 3).run Tryz.prog u=.ok (.int .i64 0) u:=by kernel_rfl
theorem map_neq (mb:Nat) (w:World):(binOp BinOp.neq 169 (.map (some mb)) (.map none)).run Tryz.prog w=.ok (.bool true) w:=by kernel_rfl
def anyR (_:Value):Option (DataW Unit×List MemPlace):=some (.nil,[])
theorem pair_key:∃kl,keyOf Tryz.prog 170 (.agg #[.int .i64 0,.int .i64 0])=some kl:=⟨(keyOf Tryz.prog 170 (.agg #[.int .i64 0,.int .i64 0])).getD (.bool false),by kernel_rfl⟩
set_option maxRecDepth 20000 in
set_option maxHeartbeats 8000000 in
theorem ccompare_leaf {B D ta sa ga ca tb sb gb cb mb:Nat} {na nb:GNode} (a2:na.items = []) (ak:na.kind=5) (ao:na.ord=false) (b2:nb.items = []) (bk:nb.kind=5) (bo:nb.ord=false) (w:World) (hA:GRd w B ga 0 [na]) (hB:GRd w B gb 0 [nb])
  (hTA:TabR w ta sa ga ca) (hTB:TabR w tb sb gb cb) (hM:w.ownsMap Tryz.prog 170 anyR mb 0 (.map [])) (hD:D≤w.heap.size) (hsa:D≤sa) (hsb:D≤sb) (hmb:D≤mb) (hBa:B≤sa) (n1:sa≠sb) (n2:sa≠tb) (n3:sa≠mb) (n4:sb≠mb) :
  Calls Tryz.prog 88 #[.pointer (some ⟨ta,0,none⟩),.int .i64 0,.pointer (some ⟨tb,0,none⟩),.int .i64 0,.map (some mb)] w (RetI D w):=by
 have D1:=Lib.hid (cdiffer_leaf (.map (some mb)) a2 ak ao b2 bk bo w hA hB hTA hTB hD hsa hsb hBa n1 n2)
 obtain⟨kl,hkl⟩:=pair_key
 clear hA hB hTA hTB a2 ak ao b2 bk bo
 go_enter Tryz.func88,Tryz.ntmps88
 go_upto_region 2 with(at_lookup;go_loud (refine wpList_lookup_own_ok _ rfl _ _ 169 rfl 170 3 (Keyed.of_law pair_law) under_pairs anyR (zero_int1 _) .nil [] rfl mb 0 (.map []) rfl hM _ _ rfl hkl ?_;intro v ps hv))
 have hz:Maps.has (DataW.map []:DataW Unit) kl=false:=rfl
 clear hv
 have HM:=Lib.hid hM
 have hml:=hM.lt
 clear hM
 go_upto_region 5 with(go_at_call 118;((with_reducible refine D1.out.mono ?_));rintro e w2 ⟨r,rfl,hb2,hk2⟩)
 have hM2:w2.ownsMap Tryz.prog 170 anyR mb 0 (.map []):=by
  obtain⟨es,clock,hb,F,hs,hD⟩:=HM.out
  exact⟨es,clock,(hk2 mb hml (Ne.symm n3) (Ne.symm n4)).trans hb,F,hs,hD⟩
 have HB2:=Lib.hid hb2
 clear hk2 D1 hb2
 have hmn:=map_neq mb w2
 go_wp2_with (at_mapUpdate;go_loud (refine wpList_mapUpdate_own _ rfl _ _ _ 169 rfl 170 3 (Keyed.of_law pair_law) under_pairs anyR mb 0 (.map []) rfl hM2 (by unfold maxLen;omega) _ _ kl rfl rfl hkl .nil [] rfl ?_;intro w3 hM3 hg3))
 go_ret
 exact⟨r,rfl,below_row HB2.out hg3 (by have:=HB2.out.size;omega) hmb⟩
end Go.Proofs.YtnnnagnjikdnnaaGreatDoor
