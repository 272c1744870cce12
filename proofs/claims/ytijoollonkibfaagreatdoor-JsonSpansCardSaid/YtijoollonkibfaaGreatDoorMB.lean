/- The walks of size of integer and of the reference. -/
import Derived.Test.YtijoollonkibfaaGreatDoorMA
import Derived.Test.YtijoollonkibfaaGreatDoorMNum
import Derived.StillTailTactics
namespace Go.Proofs.YtijoollonkibfaaGreatDoor
open Go.RowKit
end Go.Proofs.YtijoollonkibfaaGreatDoor
namespace Go.Proofs.YtijoollonkibfaaGreatDoor
open Go.RowKit
set_option maxHeartbeats 1000000 in
theorem small_any (A:Option Addr) (n c m:Nat) (by_ more:Int) (w:World) (hn:Hid (n=(dg m).length)) (hr:Rd w A (B8 (dg m))) (hc:n≤c) (hm:n≤4294967296)
  (h1:1≤by_) (h2:by_≤256) (h3:0≤more) (h4:more≤1000) :
  Calls Tryz.prog 73 #[.slice A n c,.int .i64 by_,.int .i64 more] w (RetS w (B8 (dg (m*by_.toNat+more.toNat)))):=by
 obtain⟨b,rfl⟩:=Int.eq_ofNat_of_zero_le (show 0≤by_ by omega)
 obtain⟨mo,rfl⟩:=Int.eq_ofNat_of_zero_le h3
 have ht:Ten (dg m):=ten_dg m
 rw [Int.toNat_natCast,Int.toNat_natCast,←sml_dg (by omega:1≤b)]
 generalize dg m=ds at *
 go_enter Tryz.func73,Tryz.ntmps73
 go_wp2_with (first | (at_make;refine wpList_mk rfl _ _ 108 rfl 5 _ _ Tryz.underlying108 Tryz.info5 rfl _ _ _ _ rfl rfl n (n+4) (by omega) (by omega) (by omega) (by omega) (by unfold maxLen;omega) ?_;intro g w1 hg harr hbl hsz) | (with_reducible refine wpList_cp rfl (.tmp 16) (.tmp 17) 108 108 rfl 5 Tryz.underlying108 Tryz.size5 g n (n+4) n c A rfl rfl _ _ harr.out (by simp) (B8 ds) (hr.keep hbl) (by rw [length_B8];exact hn.out.symm) (Nat.le_refl _) (B8_one _) ?_;intro w2 harr2 hgr2 hsz2))
 have hB:Below w.heap.size w w2:=hbl.grown hgr2 hbl.size (fun k e=>by have:=hg.out;have:=Option.some.inj e;omega)
 have hS2:Hid (Arr w2 g 5 (B8 (ds ++ [0,0,0,0]))):=by
  have h:=harr2.out
  rw [List.drop_replicate,show n+4 - n=4 by omega,show List.replicate 4 (Value.int IntKind.u8 0)=B8 [0,0,0,0] from rfl,←B8_append] at h
  exact h
 clear harr harr2 hgr2 hbl
 go_loopw [8,22] (fun cv iv wr=>∃(k c:Nat) (dn:List Nat),k≤n∧c≤1000∧iv=.int .i64 k∧cv=.int .i64 c∧Hid (dn.length=k)∧Hid (dn ++ sml b (ds.drop k) c=sml b ds mo) ∧
   Hid (Arr wr g 5 (B8 (dn ++ (ds.drop k ++ [0,0,0,0]))))∧Below w.heap.size w wr) (fun _ iv _=>n - (intOf iv).toNat)
 case atStart=>exact⟨0,mo,[],by omega,by omega,rfl,rfl,rfl,rfl,hS2,hB⟩
 case round=>
  obtain⟨k,c,dn,hk,hc1,rfl,rfl,hdl,heq,ha,hb⟩:=hrel
  by_cases hlt:k<n
  ·obtain⟨d,hd⟩:∃d,ds[k]? = some d:=⟨_,List.getElem?_eq_getElem (by have:=hn.out;omega)⟩
   have hd10:d<10:=ht.get hd
   have hget:(dn ++ (ds.drop k ++ [0,0,0,0]))[k]? = some d:=by
    have h1:=hdl.out
    rw [List.getElem?_append_right (by omega),h1,Nat.sub_self,List.getElem?_append_left (by have:=hn.out;simp;omega),List.getElem?_drop]
    simpa using hd
   have hcell:=ha.out.cell' (B8_get hget)
   have hfro:=ha.out.frozen k
   have hdr:ds.drop k=d :: ds.drop (k+1):=by
    have:=(List.getElem?_eq_some_iff.1 hd)
    rw [List.drop_eq_getElem_cons this.1,this.2]
   have HDR:=Lib.hid hdr;clear hdr
   have HG:=Lib.hid hget;clear hget
   have HDD:=Lib.hid hd;clear hd
   have hmul:0≤(d:Int)*(b:Int):=Int.mul_nonneg (by omega) (by omega)
   have hmul2:(d:Int)*(b:Int)≤9*256:=Int.mul_le_mul (by omega) h2 (by omega) (by omega)
   go_wp2
   go_roundw
   case rel=>
    refine⟨k+1,(c+d*b) / 10,dn ++ [(c+d*b) % 10],by omega,by have:=hc1;omega,by go_num,i64e (by omega),?_,?_,?_,hb.setCell (by have:=hg.out;show w.heap.size≤g;omega) _⟩
    ·show _=_;have:=hdl.out;simp [this]
    ·show _=_;rw [←heq.out,HDR.out];simp [sml]
    ·have h1:=ha.out.store k (.int .u8 (((c+d*b) % 10:Nat):Int))
     rw [HDR.out,B8_set,List.cons_append,set_mid hdl.out] at h1
     have e:((((c+d*b) % 10:Nat):Nat):Int)=((c:Int)+(d:Int)*(b:Int)) % 10:=by omega
     rw [e] at h1
     exact h1
   case measure=>simp [intOf];omega
  ·obtain rfl:k=n:=by omega
   have hkl:=hn.out
   have hdrop:ds.drop k = []:=List.drop_eq_nil_of_le (by omega)
   have hown:wr.ownsRow w.heap.size 5 1 (.slice (some ⟨g,0,none⟩) k (k+4)) k (B8 dn):=by
    have h1:=ha.out
    rw [hdrop] at h1
    have h2:=arr_own (base:=w.heap.size) (n:=k) (c:=k+4) h1 (by have:=hg.out;omega) (by omega) (by have:=hdl.out;simp [length_B8];omega) (by unfold maxLen;omega)
    have h3:(B8 (dn ++ ([] ++ [0,0,0,0]))).take k=B8 dn:=by
     rw [B8_append,List.take_append_of_le_length (by have:=hdl.out;simp [length_B8];omega),List.take_of_length_le (by have:=hdl.out;simp [length_B8];omega)]
    rwa [h3] at h2
   have heq2:Hid (dn ++ dg c=sml b ds mo):=by
    have h1:=heq.out
    rw [hdrop] at h1
    exact h1
   have htot:Hid ((sml b ds mo).length≤k+4):=by
    show _≤_
    rw [←heq2.out,List.length_append,hdl.out]
    have:(dg c).length≤4:=dg_len_le.2 (by omega)
    omega
   have hw0:=hg.out
   have hgs:w.heap.size≤g:=by omega
   have HK:=Lib.hid hkl
   have hdl':Hid (k=dn.length):=hdl.out.symm
   clear hdrop heq ha hdl hkl hw0
   go_wp2
   go_loopw [7,8] (fun ov cv wx=>∃(q c:Nat) (dn:List Nat),c≤1000∧cv=.int .i64 c∧Hid (dn ++ dg c=sml b ds mo)∧Hid (q=dn.length)∧wx.ownsRow w.heap.size 5 1 ov q (B8 dn)∧Below w.heap.size w wx)
    (fun _ cv _=>(intOf cv).toNat)
   case atStart=>exact⟨_,c,dn,hc1,rfl,heq2,hdl',hown,hb⟩
   case round=>
    clear hown heq2 hb hc1 hdl'
    obtain⟨q,c,dn,hc1,rfl,heq,hql,hown,hb⟩:=hrel
    by_cases h0:c=0
    ·subst h0
     go_wp2
     go_ret
     have h1:=heq.out
     rw [dg_zero,List.append_nil] at h1
     rw [←h1]
     exact own_ret hown hb (Nat.le_refl _)
    ·have hc0:0<c:=by omega
     have hdg:=dg_pos h0
     have hqb:q≤4294967296+4:=by
      have h1:=htot.out
      rw [←heq.out,List.length_append] at h1
      have:=hql.out
      omega
     have HDG:=Lib.hid hdg;clear hdg
     go_wp2_with (at_builtin;go_loud (with_reducible refine wpList_ap1 rfl (.tmp 45) (.tmp 49) 108 rfl w.heap.size 5 _ _ Tryz.underlying108 Tryz.info5 rfl _ q (B8 dn) rfl (hown.alloc _) ⟨wr.heap.size,0,none⟩ _ (.int .u8 ((c:Int) % 10)) rfl ?a1 rfl ?a2 ?a3 ?a4 ?_);rotate_right;intro v' w3 hown3 hgr3)
     case a1=>exact cell_new _ _ _
     case a2=>unfold maxLen;omega
     case a3=>omega
     case a4=>have:=hb.size;simp;omega
     ·have hlo:=hown.lt
      refine⟨⟨q+1,c / 10,dn ++ [c % 10],by omega,i64e (by omega),?_,?_,?_,?_⟩,by simp [intOf];omega⟩
      ·show _=_
       rw [←heq.out,HDG.out];simp
      ·show _=_
       have:=hql.out;simp;omega
      ·rw [B8_append];exact hown3
      ·refine(hb.alloc hb.size _).grown hgr3 (by have:=hb.size;simp;omega) (fun k e=>(hlo k e).1)
end Go.Proofs.YtijoollonkibfaaGreatDoor
namespace Go.Proofs.YtijoollonkibfaaGreatDoor
open Go.RowKit
end Go.Proofs.YtijoollonkibfaaGreatDoor
namespace Go.Proofs.YtijoollonkibfaaGreatDoor
open Go.RowKit
def sdig (x y c:Nat):Nat:=if x<y+c then x+10 - (y+c) else x - (y+c)
def sbor (x y c:Nat):Nat:=if x<y+c then 1 else 0
end Go.Proofs.YtijoollonkibfaaGreatDoor
namespace Go.Proofs.YtijoollonkibfaaGreatDoor
open Go.RowKit
def cntAt (w:World) (g i:Nat):Nat:=match w.cell? ⟨g,i,none⟩ with | some v=>(intOf v).toNat | none=>0
def DivPost (p q:Nat) (w:World) (e:Ending) (w':World):Prop:=
 ∃A n c A' n' c',e=.returned (.tuple #[.slice A n c,.slice A' n' c'])∧Hid (n=(dg (p / q)).length)∧n≤c∧Rd w' A (B8 (dg (p / q)))∧From w.heap.size A ∧
  Hid (n'=(dg (p % q)).length)∧n'≤c'∧Rd w' A' (B8 (dg (p % q)))∧Below w.heap.size w w'
end Go.Proofs.YtijoollonkibfaaGreatDoor
namespace Go.Proofs.YtijoollonkibfaaGreatDoor
open Go.RowKit
theorem dec_step {b : List Nat} {k c n : Nat} (hd : b[k]? = some c) (hn : b.length = n) :
    ((List.replicate (n - k) 0 ++ (dec (b.take k)).reverse).set (n - 1 - k) (c - 48))=List.replicate (n - (k+1)) 0 ++ (dec (b.take (k+1))).reverse:=by
  have h:=List.getElem?_eq_some_iff.1 hd
  have e1:List.replicate (n - k) 0=List.replicate (n - (k+1)) 0 ++ [0]:=by
    rw [←List.replicate_succ'];congr 1;have:=h.1;omega
  rw [e1,List.append_assoc,show n - 1 - k=n - (k+1) by omega]
  have e2:([0] ++ (dec (b.take k)).reverse)=0 :: (dec (b.take k)).reverse:=rfl
  rw [e2,set_mid (by simp),List.append_assoc]
  congr 1
  rw [List.take_succ_eq_append_getElem h.1,h.2]
  simp [dec]
def ReadPost (o:Option (Bool×Nat)) (w:World) (e:Ending) (w':World):Prop:=
  Below w.heap.size w w' ∧
  match o with
  | none=>e=.returned (.tuple #[.agg #[.bool false,.slice none 0 0],.bool false])
  | some (neg,m)=>∃A n c,e=.returned (.tuple #[.agg #[.bool neg,.slice A n c],.bool true])∧Hid (n=(dg m).length)∧n≤400∧n≤c∧Rd w' A (B8 (dg m))∧From w.heap.size A
theorem two_box (w : World) (t t' : TypeId) (xs ys : List Value) :
    Hid (Arr ((w.alloc (.cells xs.toArray t)).alloc (.cells ys.toArray t')) w.heap.size t xs)∧Hid (Arr ((w.alloc (.cells xs.toArray t)).alloc (.cells ys.toArray t')) (w.heap.size+1) t' ys) ∧
      Below w.heap.size w ((w.alloc (.cells xs.toArray t)).alloc (.cells ys.toArray t'))∧Hid (((w.alloc (.cells xs.toArray t)).alloc (.cells ys.toArray t')).heap.size=w.heap.size+2):=by
  refine⟨(Arr.new w t xs).alloc _,?_,((Below.refl _ _).alloc (Nat.le_refl _) _).alloc (by simp) _,?_⟩
  · have h:=Arr.new (w.alloc (.cells xs.toArray t)) t' ys
    have e:(w.alloc (.cells xs.toArray t)).heap.size=w.heap.size+1:=by simp
    rw [e] at h
    exact h
  · show _=_
    simp
set_option maxHeartbeats 2000000 in
theorem read_A (b : List Nat) (w : World) (hby : By b) (hv : 0 < b.length) (hneg : negL (45 :: b) = true) (hbody : bodyL (45 :: b) = b) :
    Calls Tryz.prog 106 #[.string (mks (45 :: b))] w (ReadPost (parseC (45 :: b)) w):=by
  obtain⟨c0,hc0⟩:∃c0,b[0]? = some c0:=⟨_,List.getElem?_eq_getElem (by omega)⟩
  have hc0b:=hby.get hc0
  have hg0:=get_mks hc0 hc0b (by rw [size_mks];omega)
  have hg45:=get_mks (l:=45 :: b) (i:=0) (c:=45) rfl (by omega) (by rw [size_mks];simp)
  have hb0:((b.length:Int) == 0)=false:=by simp;intro h;subst h;simp at hc0
  have hbp:0<b.length:=by omega
  by_cases hlong:400<b.length
  · first
      | (fail)
      | (have HPC : parseC (45 :: b) = none := by unfold parseC; rw [if_pos (by unfold badL; rw [hbody]; omega)]
         rw [HPC]
         clear HPC hneg hbody
         have HC0:=Lib.hid hc0
         clear hc0
         have hlong':(400:Int)<b.length:=by omega
         go_enter Tryz.func106,Tryz.ntmps106
         go_wp2
         refine bodyPost_ret (v:=.tuple #[.agg #[.bool false,.slice none 0 0],.bool false]) (by simp [results,Tryz.results106,go_sem]) rfl ⟨?_,rfl⟩
         exact(by repeat (first | exact Below.refl _ _ | assumption | refine Below.drew ?_ | refine Below.drewN' ?_ _ | refine Below.alloc ?_ (by first | assumption | (simp;done) | (simp;omega) | omega) _ | refine Below.setCell ?_ (by first | assumption | (simp;done) | (simp;omega) | omega) _)))
  · have hlong':¬(400:Int)<b.length:=by omega
    by_cases hzero:c0=48∧1<(45 :: b).length
    · first
        | (fail)
        | (obtain ⟨rfl, _⟩ := hzero
           have HPC:parseC (45 :: b)=none:=by unfold parseC;rw [if_pos (by unfold badL;rw [hbody];refine .inr (.inr ⟨hc0,?_⟩);first | omega | (simp;omega))]
           rw [HPC]
           clear HPC hneg hbody
           have HC0:=Lib.hid hc0
           clear hc0
           go_enter Tryz.func106,Tryz.ntmps106
           go_wp2
           refine bodyPost_ret (v:=.tuple #[.agg #[.bool false,.slice none 0 0],.bool false]) (by simp [results,Tryz.results106,go_sem]) rfl ⟨?_,rfl⟩
           exact(by repeat (first | exact Below.refl _ _ | assumption | refine Below.drew ?_ | refine Below.drewN' ?_ _ | refine Below.alloc ?_ (by first | assumption | (simp;done) | (simp;omega) | omega) _ | refine Below.setCell ?_ (by first | assumption | (simp;done) | (simp;omega) | omega) _)))
    · have hnb : ¬ badL (45 :: b) := by
        unfold badL
        rw [hbody,hc0]
        rintro(h | h | ⟨h,h'⟩)
        · omega
        · omega
        · exact hzero ⟨Option.some.inj h,h'⟩
      have hpc:parseC (45 :: b)=if b.all isDig then some (true,val (dec b).reverse) else none:=by unfold parseC;rw [if_neg hnb,hbody,hneg]
      rw [hpc]
      generalize hpo:(if b.all isDig then some (true,val (dec b).reverse) else none)=po
      have HPO:=Lib.hid hpo
      clear hpc hpo hnb hneg hbody
      have HC0:=Lib.hid hc0
      clear hc0
      have h48:(c0=48∧¬1<(45 :: b).length)∨((c0:Int) == 48)=false:=by
        by_cases h:c0=48
        · exact .inl ⟨h,fun h'=>hzero ⟨h,h'⟩⟩
        · right;simp;omega
      clear hzero
      obtain⟨HR,HX,HB2,HZ⟩:=two_box w 121 121 [.bool false,.slice none 0 0] [.bool true,.slice none 0 0]
      rcases h48 with⟨rfl,h48⟩ | h48
      all_goals first
        | (exact absurd (show 1<b.length+1 by omega) h48)
        | (go_enter Tryz.func106, Tryz.ntmps106
           go_wp2_with (at_make;go_loud (refine wpList_mk rfl _ _ 108 rfl 5 _ _ Tryz.underlying108 Tryz.info5 rfl _ _ _ _ rfl rfl (b.length) (b.length) (by omega) (by omega) (by omega) (by omega) (by unfold maxLen;omega) ?_;intro g w1 hg harr hbl hsz;have q1:=(HX.out.keep hbl).cell' (i:=1) rfl;have f1:=(HX.out.keep hbl).frozen 1))
           have hgs:g=w.heap.size+2:=by have h1:=hg.out;rw [HZ.out] at h1;exact h1
           have HGS:=Lib.hid hgs
           clear hgs
           have HXS:=Lib.hid ((HX.out.keep hbl).store 1 (.slice (some ⟨g,0,none⟩) b.length b.length))
           have HRS:=Lib.hid ((HR.out.keep hbl).far (p:=⟨w.heap.size+1,1,none⟩) (by show w.heap.size≠w.heap.size+1;omega) (.slice (some ⟨g,0,none⟩) b.length b.length))
           have hS1:Hid (Arr (w1.setCell ⟨w.heap.size+1,1,none⟩ (.slice (some ⟨g,0,none⟩) b.length b.length)) g 5 (B8 (List.replicate b.length 0 ++ (dec (b.take 0)).reverse))):=by
             have h:=harr.out.far (p:=⟨w.heap.size+1,1,none⟩) (by have:=HGS.out;show g≠w.heap.size+1;omega) (.slice (some ⟨g,0,none⟩) b.length b.length)
             show Arr _ _ _ _
             have e:B8 (List.replicate b.length 0 ++ (dec (b.take 0)).reverse)=List.replicate b.length (.int .u8 0):=by simp [dec,B8]
             rw [e];exact h
           have hB1:=(HB2.trans (hbl.mono (by rw [HZ.out];omega))).setCell (p:=⟨w.heap.size+1,1,none⟩) (by show w.heap.size≤w.heap.size+1;omega) (.slice (some ⟨g,0,none⟩) b.length b.length)
           clear harr q1 f1 HR HX HB2 hbl hg
           skip
           go_loopw [45] (fun iv wr => ∃ k : Nat, k ≤ b.length ∧ iv = .int .i64 k ∧ Hid ((b.take k).all isDig = true) ∧ Hid (Arr wr g 5 (B8 (List.replicate (b.length - k) 0 ++ (dec (b.take k)).reverse))) ∧
               Hid (Arr wr (w.heap.size+1) 121 [.bool true,.slice (some ⟨g,0,none⟩) b.length b.length])∧Hid (Arr wr w.heap.size 121 [.bool false,.slice none 0 0])∧Below w.heap.size w wr)
             (fun iv _=>b.length - (intOf iv).toNat)
           case atStart=>exact⟨0,by omega,rfl,rfl,hS1,HXS,HRS,hB1⟩
           case round=>
             clear hS1 HXS HRS hB1
             obtain⟨k,hk,rfl,hall,ha,hx,hr,hb⟩:=hrel
             have x0:=hx.out.cell' (i:=0) rfl
             have x1:=hx.out.cell' (i:=1) rfl
             have xf1:=hx.out.frozen 1
             by_cases hlt:k<b.length
             · obtain⟨c,hc⟩:∃c,b[k]? = some c:=⟨_,List.getElem?_eq_getElem hlt⟩
               have hcb:=hby.get hc
               have hgk:=get_mks hc hcb (by rw [size_mks];exact hlt)
               have hte:b.take (k+1)=b.take k ++ [c]:=by
                 have:=List.getElem?_eq_some_iff.1 hc
                 rw [List.take_succ_eq_append_getElem this.1,this.2]
               by_cases hd:48≤c∧c≤57
               · obtain⟨hd1,hd2⟩:=hd
                 have HALL:Hid ((b.take (k+1)).all isDig=true):=by
                   show _=_
                   rw [hte,List.all_append,hall.out]
                   simp [isDig,hd1,hd2]
                 have hget:(List.replicate (b.length - k) 0 ++ (dec (b.take k)).reverse)[b.length - 1 - k]? = some 0:=by
                   rw [List.getElem?_append_left (by simp;omega),List.getElem?_replicate,if_pos (by omega)]
                 have hc2:=ha.out.cell' (B8_get hget)
                 have hfr:=ha.out.frozen (b.length - 1 - k)
                 have hst:=ha.out.store (b.length - 1 - k) (.int .u8 ((c - 48:Nat):Int))
                 rw [B8_set,dec_step hc rfl] at hst
                 have ecast:((c - 48:Nat):Int)=(c:Int) - 48:=by omega
                 rw [ecast] at hst
                 have HST:=Lib.hid hst
                 have HX2:=Lib.hid (hx.out.far (p:=⟨g,b.length - 1 - k,none⟩) (by have:=HGS.out;show w.heap.size+1≠g;omega) (.int .u8 ((c:Int) - 48)))
                 have HR2:=Lib.hid (hr.out.far (p:=⟨g,b.length - 1 - k,none⟩) (by have:=HGS.out;show w.heap.size≠g;omega) (.int .u8 ((c:Int) - 48)))
                 have hB2:=hb.setCell (p:=⟨g,b.length - 1 - k,none⟩) (by have:=HGS.out;show w.heap.size≤g;omega) (.int .u8 ((c:Int) - 48))
                 have b1:0≤(b.length:Int) - 1 - k:=by omega
                 have b2:(b.length:Int) - 1 - k<b.length:=by omega
                 have b3:((b.length:Int) - 1 - k).toNat=b.length - 1 - k:=by omega
                 have hk0:(0:Int)≤(k:Int):=by omega
                 have hk1:(k:Int)<b.length:=by omega
                 clear hst ecast hget hc hte hr hx
                 go_wp2
                 go_region
                 go_wp2
                 go_roundw
                 case rel=>exact⟨k+1,by omega,by go_num,HALL,HST,HX2,HR2,hB2.drew⟩
                 case measure=>simp [intOf];omega
               · have HPN : Hid (b.all isDig = false) := by
                   show _=_
                   rw [List.all_eq_false]
                   exact⟨c,List.mem_of_getElem? hc,by simp [isDig];omega⟩
                 clear hc hte hx
                 by_cases hd1:c<48
                 all_goals
                   first | have hd2:¬57<c:=by omega | have hd2:57<c:=by omega
                   go_wp2_with ((with_reducible show wpList _ _ _ (Oper.mk none (Op.store 121 (Operand.tmp 2) (Operand.tmp 58)) _ _ _ _ :: _) _ _);go_loud (refine wpList_sr rfl rfl 121 (.tmp 2) (.tmp 58) rfl (w.heap.size) [.bool false,.slice none 0 0] rfl rfl 121 _ hr.out _ Tryz.sz121 (by first | rfl | simp) (by first | rfl | simp) (by first | rfl | simp [Value.oneCell']) ?_;intro w5 hr5 hg5 hz5))
                   have r0:=hr5.out.cell' (i:=0) rfl
                   have r1:=hr5.out.cell' (i:=1) rfl
                   refine bodyPost_ret (v:=.tuple #[.agg #[.bool false,.slice none 0 0],.bool false]) (by simp [results,Tryz.results106,go_sem,r0,r1]) rfl ?_
                   rw [←HPO.out,HPN.out]
                   exact⟨hb.grown hg5 hb.size (fun k e=>by have:=Option.some.inj e;omega),rfl⟩
             · obtain rfl:k=b.length:=by omega
               have hall':=hall.out
               rw [List.take_length] at hall'
               have HA2:=Lib.hid hall'
               have htd:=ten_dec hall'
               have hrd:=ha.out.rd
               rw [List.take_length,Nat.sub_self,List.replicate_zero,List.nil_append] at hrd
               have hln:Hid (b.length=(dec b).reverse.length):=by show _=_;simp [dec]
               have hrx:=hr.out.far (p:=⟨w.heap.size+1,1,none⟩) (by show w.heap.size≠w.heap.size+1;omega)
               clear hall hall' ha
               go_wp2_with (first | (go_at_call 124;go_loud (refine(trim_any _ _ _ (dec b).reverse _ hln hrd htd (Nat.le_refl _) (by unfold maxLen;omega)).mono ?_;rintro e w' ⟨kk,rfl,hkk,hkn,hrr,rfl⟩)) | ((with_reducible show wpList _ _ _ (Oper.mk none (Op.store 121 (Operand.tmp 2) (Operand.tmp 76)) _ _ _ _ :: _) _ _);go_loud (refine wpList_sr rfl rfl 121 (.tmp 2) (.tmp 76) rfl (w.heap.size) [.bool true,.slice (some ⟨g,0,none⟩) kk b.length] rfl rfl 121 _ (hrx _) _ Tryz.sz121 (by first | rfl | simp) (by first | rfl | simp) (by first | rfl | simp [Value.oneCell']) ?_;intro w5 hr5 hg5 hz5)))
               have r0:=hr5.out.cell' (i:=0) rfl
               have r1:=hr5.out.cell' (i:=1) rfl
               refine bodyPost_ret (v:=.tuple #[.agg #[.bool true,.slice (some ⟨g,0,none⟩) kk b.length],.bool true]) (by simp [results,Tryz.results106,go_sem,r0,r1]) rfl ?_
               rw [←HPO.out,if_pos HA2.out]
               refine⟨(hb.setCell (by show w.heap.size≤w.heap.size+1;omega) _).grown hg5 (by have:=hb.size;simpa using this) (fun k e=>by have:=Option.some.inj e;omega),_,kk,b.length,rfl,hkk,?_,?_,?_,?_⟩
               · have:=hkn;simp [dec] at this;omega
               · have:=hkn;simp [dec] at this;omega
               · refine(hrr.setCell _ ?_).grown hg5 ?_
                 · rintro ad e;obtain rfl:=Option.some.inj e;have:=HGS.out;show g≠w.heap.size+1;omega
                 · rintro ad e;obtain rfl:=Option.some.inj e;intro h;have h2:g=w.heap.size:=Option.some.inj h;have:=HGS.out;omega
               · rintro ad e;obtain rfl:=Option.some.inj e;have:=HGS.out;show w.heap.size≤g;omega)
set_option maxHeartbeats 2000000 in
theorem read_B (b : List Nat) (w : World) (hby : By b) (hv : 1 < b.length) (hv2 : b[0]? ≠ some 45) (hneg : negL (b) = false) (hbody : bodyL (b) = b) :
    Calls Tryz.prog 106 #[.string (mks (b))] w (ReadPost (parseC (b)) w):=by
  obtain⟨c0,hc0⟩:∃c0,b[0]? = some c0:=⟨_,List.getElem?_eq_getElem (by omega)⟩
  have hc0b:=hby.get hc0
  have hg0:=get_mks hc0 hc0b (by rw [size_mks];omega)
  have hg45:((c0:Int) == 45)=false:=by rw [beq_eq_false_iff_ne];intro h;exact hv2 (by rw [hc0,show c0=45 by omega])
  have hb0:((b.length:Int) == 0)=false:=by simp;intro h;subst h;simp at hc0
  have hbp:0<b.length:=by omega
  by_cases hlong:400<b.length
  · first
      | (fail)
      | (have HPC : parseC (b) = none := by unfold parseC; rw [if_pos (by unfold badL; rw [hbody]; omega)]
         rw [HPC]
         clear HPC hneg hbody
         have HC0:=Lib.hid hc0
         clear hc0
         have hlong':(400:Int)<b.length:=by omega
         go_enter Tryz.func106,Tryz.ntmps106
         go_wp2
         refine bodyPost_ret (v:=.tuple #[.agg #[.bool false,.slice none 0 0],.bool false]) (by simp [results,Tryz.results106,go_sem]) rfl ⟨?_,rfl⟩
         exact(by repeat (first | exact Below.refl _ _ | assumption | refine Below.drew ?_ | refine Below.drewN' ?_ _ | refine Below.alloc ?_ (by first | assumption | (simp;done) | (simp;omega) | omega) _ | refine Below.setCell ?_ (by first | assumption | (simp;done) | (simp;omega) | omega) _)))
  · have hlong':¬(400:Int)<b.length:=by omega
    by_cases hzero:c0=48∧1<(b).length
    · first
        | (fail)
        | (obtain ⟨rfl, _⟩ := hzero
           have HPC:parseC (b)=none:=by unfold parseC;rw [if_pos (by unfold badL;rw [hbody];refine .inr (.inr ⟨hc0,?_⟩);first | omega | (simp;omega))]
           rw [HPC]
           clear HPC hneg hbody
           have HC0:=Lib.hid hc0
           clear hc0
           go_enter Tryz.func106,Tryz.ntmps106
           go_wp2
           refine bodyPost_ret (v:=.tuple #[.agg #[.bool false,.slice none 0 0],.bool false]) (by simp [results,Tryz.results106,go_sem]) rfl ⟨?_,rfl⟩
           exact(by repeat (first | exact Below.refl _ _ | assumption | refine Below.drew ?_ | refine Below.drewN' ?_ _ | refine Below.alloc ?_ (by first | assumption | (simp;done) | (simp;omega) | omega) _ | refine Below.setCell ?_ (by first | assumption | (simp;done) | (simp;omega) | omega) _)))
    · have hnb : ¬ badL (b) := by
        unfold badL
        rw [hbody,hc0]
        rintro(h | h | ⟨h,h'⟩)
        · omega
        · omega
        · exact hzero ⟨Option.some.inj h,h'⟩
      have hpc:parseC (b)=if b.all isDig then some (false,val (dec b).reverse) else none:=by unfold parseC;rw [if_neg hnb,hbody,hneg]
      rw [hpc]
      generalize hpo:(if b.all isDig then some (false,val (dec b).reverse) else none)=po
      have HPO:=Lib.hid hpo
      clear hpc hpo hnb hneg hbody
      have HC0:=Lib.hid hc0
      clear hc0
      have h48:(c0=48∧¬1<(b).length)∨((c0:Int) == 48)=false:=by
        by_cases h:c0=48
        · exact .inl ⟨h,fun h'=>hzero ⟨h,h'⟩⟩
        · right;simp;omega
      clear hzero
      obtain⟨HR,HX,HB2,HZ⟩:=two_box w 121 121 [.bool false,.slice none 0 0] [.bool false,.slice none 0 0]
      rcases h48 with⟨rfl,h48⟩ | h48
      all_goals first
        | (exact absurd hv h48)
        | (go_enter Tryz.func106, Tryz.ntmps106
           go_wp2_with (at_make;go_loud (refine wpList_mk rfl _ _ 108 rfl 5 _ _ Tryz.underlying108 Tryz.info5 rfl _ _ _ _ rfl rfl (b.length) (b.length) (by omega) (by omega) (by omega) (by omega) (by unfold maxLen;omega) ?_;intro g w1 hg harr hbl hsz;have q1:=(HX.out.keep hbl).cell' (i:=1) rfl;have f1:=(HX.out.keep hbl).frozen 1))
           have hgs:g=w.heap.size+2:=by have h1:=hg.out;rw [HZ.out] at h1;exact h1
           have HGS:=Lib.hid hgs
           clear hgs
           have HXS:=Lib.hid ((HX.out.keep hbl).store 1 (.slice (some ⟨g,0,none⟩) b.length b.length))
           have HRS:=Lib.hid ((HR.out.keep hbl).far (p:=⟨w.heap.size+1,1,none⟩) (by show w.heap.size≠w.heap.size+1;omega) (.slice (some ⟨g,0,none⟩) b.length b.length))
           have hS1:Hid (Arr (w1.setCell ⟨w.heap.size+1,1,none⟩ (.slice (some ⟨g,0,none⟩) b.length b.length)) g 5 (B8 (List.replicate b.length 0 ++ (dec (b.take 0)).reverse))):=by
             have h:=harr.out.far (p:=⟨w.heap.size+1,1,none⟩) (by have:=HGS.out;show g≠w.heap.size+1;omega) (.slice (some ⟨g,0,none⟩) b.length b.length)
             show Arr _ _ _ _
             have e:B8 (List.replicate b.length 0 ++ (dec (b.take 0)).reverse)=List.replicate b.length (.int .u8 0):=by simp [dec,B8]
             rw [e];exact h
           have hB1:=(HB2.trans (hbl.mono (by rw [HZ.out];omega))).setCell (p:=⟨w.heap.size+1,1,none⟩) (by show w.heap.size≤w.heap.size+1;omega) (.slice (some ⟨g,0,none⟩) b.length b.length)
           clear harr q1 f1 HR HX HB2 hbl hg
           skip
           go_loopw [45] (fun iv wr => ∃ k : Nat, k ≤ b.length ∧ iv = .int .i64 k ∧ Hid ((b.take k).all isDig = true) ∧ Hid (Arr wr g 5 (B8 (List.replicate (b.length - k) 0 ++ (dec (b.take k)).reverse))) ∧
               Hid (Arr wr (w.heap.size+1) 121 [.bool false,.slice (some ⟨g,0,none⟩) b.length b.length])∧Hid (Arr wr w.heap.size 121 [.bool false,.slice none 0 0])∧Below w.heap.size w wr)
             (fun iv _=>b.length - (intOf iv).toNat)
           case atStart=>exact⟨0,by omega,rfl,rfl,hS1,HXS,HRS,hB1⟩
           case round=>
             clear hS1 HXS HRS hB1
             obtain⟨k,hk,rfl,hall,ha,hx,hr,hb⟩:=hrel
             have x0:=hx.out.cell' (i:=0) rfl
             have x1:=hx.out.cell' (i:=1) rfl
             have xf1:=hx.out.frozen 1
             by_cases hlt:k<b.length
             · obtain⟨c,hc⟩:∃c,b[k]? = some c:=⟨_,List.getElem?_eq_getElem hlt⟩
               have hcb:=hby.get hc
               have hgk:=get_mks hc hcb (by rw [size_mks];exact hlt)
               have hte:b.take (k+1)=b.take k ++ [c]:=by
                 have:=List.getElem?_eq_some_iff.1 hc
                 rw [List.take_succ_eq_append_getElem this.1,this.2]
               by_cases hd:48≤c∧c≤57
               · obtain⟨hd1,hd2⟩:=hd
                 have HALL:Hid ((b.take (k+1)).all isDig=true):=by
                   show _=_
                   rw [hte,List.all_append,hall.out]
                   simp [isDig,hd1,hd2]
                 have hget:(List.replicate (b.length - k) 0 ++ (dec (b.take k)).reverse)[b.length - 1 - k]? = some 0:=by
                   rw [List.getElem?_append_left (by simp;omega),List.getElem?_replicate,if_pos (by omega)]
                 have hc2:=ha.out.cell' (B8_get hget)
                 have hfr:=ha.out.frozen (b.length - 1 - k)
                 have hst:=ha.out.store (b.length - 1 - k) (.int .u8 ((c - 48:Nat):Int))
                 rw [B8_set,dec_step hc rfl] at hst
                 have ecast:((c - 48:Nat):Int)=(c:Int) - 48:=by omega
                 rw [ecast] at hst
                 have HST:=Lib.hid hst
                 have HX2:=Lib.hid (hx.out.far (p:=⟨g,b.length - 1 - k,none⟩) (by have:=HGS.out;show w.heap.size+1≠g;omega) (.int .u8 ((c:Int) - 48)))
                 have HR2:=Lib.hid (hr.out.far (p:=⟨g,b.length - 1 - k,none⟩) (by have:=HGS.out;show w.heap.size≠g;omega) (.int .u8 ((c:Int) - 48)))
                 have hB2:=hb.setCell (p:=⟨g,b.length - 1 - k,none⟩) (by have:=HGS.out;show w.heap.size≤g;omega) (.int .u8 ((c:Int) - 48))
                 have b1:0≤(b.length:Int) - 1 - k:=by omega
                 have b2:(b.length:Int) - 1 - k<b.length:=by omega
                 have b3:((b.length:Int) - 1 - k).toNat=b.length - 1 - k:=by omega
                 have hk0:(0:Int)≤(k:Int):=by omega
                 have hk1:(k:Int)<b.length:=by omega
                 clear hst ecast hget hc hte hr hx
                 go_wp2
                 go_region
                 go_wp2
                 go_roundw
                 case rel=>exact⟨k+1,by omega,by go_num,HALL,HST,HX2,HR2,hB2.drew⟩
                 case measure=>simp [intOf];omega
               · have HPN : Hid (b.all isDig = false) := by
                   show _=_
                   rw [List.all_eq_false]
                   exact⟨c,List.mem_of_getElem? hc,by simp [isDig];omega⟩
                 clear hc hte hx
                 by_cases hd1:c<48
                 all_goals
                   first | have hd2:¬57<c:=by omega | have hd2:57<c:=by omega
                   go_wp2_with ((with_reducible show wpList _ _ _ (Oper.mk none (Op.store 121 (Operand.tmp 2) (Operand.tmp 58)) _ _ _ _ :: _) _ _);go_loud (refine wpList_sr rfl rfl 121 (.tmp 2) (.tmp 58) rfl (w.heap.size) [.bool false,.slice none 0 0] rfl rfl 121 _ hr.out _ Tryz.sz121 (by first | rfl | simp) (by first | rfl | simp) (by first | rfl | simp [Value.oneCell']) ?_;intro w5 hr5 hg5 hz5))
                   have r0:=hr5.out.cell' (i:=0) rfl
                   have r1:=hr5.out.cell' (i:=1) rfl
                   refine bodyPost_ret (v:=.tuple #[.agg #[.bool false,.slice none 0 0],.bool false]) (by simp [results,Tryz.results106,go_sem,r0,r1]) rfl ?_
                   rw [←HPO.out,HPN.out]
                   exact⟨hb.grown hg5 hb.size (fun k e=>by have:=Option.some.inj e;omega),rfl⟩
             · obtain rfl:k=b.length:=by omega
               have hall':=hall.out
               rw [List.take_length] at hall'
               have HA2:=Lib.hid hall'
               have htd:=ten_dec hall'
               have hrd:=ha.out.rd
               rw [List.take_length,Nat.sub_self,List.replicate_zero,List.nil_append] at hrd
               have hln:Hid (b.length=(dec b).reverse.length):=by show _=_;simp [dec]
               have hrx:=hr.out.far (p:=⟨w.heap.size+1,1,none⟩) (by show w.heap.size≠w.heap.size+1;omega)
               clear hall hall' ha
               go_wp2_with (first | (go_at_call 124;go_loud (refine(trim_any _ _ _ (dec b).reverse _ hln hrd htd (Nat.le_refl _) (by unfold maxLen;omega)).mono ?_;rintro e w' ⟨kk,rfl,hkk,hkn,hrr,rfl⟩)) | ((with_reducible show wpList _ _ _ (Oper.mk none (Op.store 121 (Operand.tmp 2) (Operand.tmp 76)) _ _ _ _ :: _) _ _);go_loud (refine wpList_sr rfl rfl 121 (.tmp 2) (.tmp 76) rfl (w.heap.size) [.bool false,.slice (some ⟨g,0,none⟩) kk b.length] rfl rfl 121 _ (hrx _) _ Tryz.sz121 (by first | rfl | simp) (by first | rfl | simp) (by first | rfl | simp [Value.oneCell']) ?_;intro w5 hr5 hg5 hz5)))
               have r0:=hr5.out.cell' (i:=0) rfl
               have r1:=hr5.out.cell' (i:=1) rfl
               refine bodyPost_ret (v:=.tuple #[.agg #[.bool false,.slice (some ⟨g,0,none⟩) kk b.length],.bool true]) (by simp [results,Tryz.results106,go_sem,r0,r1]) rfl ?_
               rw [←HPO.out,if_pos HA2.out]
               refine⟨(hb.setCell (by show w.heap.size≤w.heap.size+1;omega) _).grown hg5 (by have:=hb.size;simpa using this) (fun k e=>by have:=Option.some.inj e;omega),_,kk,b.length,rfl,hkk,?_,?_,?_,?_⟩
               · have:=hkn;simp [dec] at this;omega
               · have:=hkn;simp [dec] at this;omega
               · refine(hrr.setCell _ ?_).grown hg5 ?_
                 · rintro ad e;obtain rfl:=Option.some.inj e;have:=HGS.out;show g≠w.heap.size+1;omega
                 · rintro ad e;obtain rfl:=Option.some.inj e;intro h;have h2:g=w.heap.size:=Option.some.inj h;have:=HGS.out;omega
               · rintro ad e;obtain rfl:=Option.some.inj e;have:=HGS.out;show w.heap.size≤g;omega)
set_option maxHeartbeats 2000000 in
theorem read_C (b : List Nat) (w : World) (hby : By b) (hv : b.length ≤ 1) (hv2 : 0 < b.length) (hneg : negL (b) = false) (hbody : bodyL (b) = b) :
    Calls Tryz.prog 106 #[.string (mks (b))] w (ReadPost (parseC (b)) w):=by
  obtain⟨c0,hc0⟩:∃c0,b[0]? = some c0:=⟨_,List.getElem?_eq_getElem (by omega)⟩
  have hc0b:=hby.get hc0
  have hg0:=get_mks hc0 hc0b (by rw [size_mks];omega)
  have hv':¬1<b.length:=by omega
  have hb0:((b.length:Int) == 0)=false:=by simp;intro h;subst h;simp at hc0
  have hbp:0<b.length:=by omega
  by_cases hlong:400<b.length
  · first
      | ((exfalso;omega))
      | (have HPC : parseC (b) = none := by unfold parseC; rw [if_pos (by unfold badL; rw [hbody]; omega)]
         rw [HPC]
         clear HPC hneg hbody
         have HC0:=Lib.hid hc0
         clear hc0
         have hlong':(400:Int)<b.length:=by omega
         go_enter Tryz.func106,Tryz.ntmps106
         go_wp2
         refine bodyPost_ret (v:=.tuple #[.agg #[.bool false,.slice none 0 0],.bool false]) (by simp [results,Tryz.results106,go_sem]) rfl ⟨?_,rfl⟩
         exact(by repeat (first | exact Below.refl _ _ | assumption | refine Below.drew ?_ | refine Below.drewN' ?_ _ | refine Below.alloc ?_ (by first | assumption | (simp;done) | (simp;omega) | omega) _ | refine Below.setCell ?_ (by first | assumption | (simp;done) | (simp;omega) | omega) _)))
  · have hlong':¬(400:Int)<b.length:=by omega
    by_cases hzero:c0=48∧1<(b).length
    · first
        | (exact absurd hzero.2 (by omega))
        | (obtain ⟨rfl, _⟩ := hzero
           have HPC:parseC (b)=none:=by unfold parseC;rw [if_pos (by unfold badL;rw [hbody];refine .inr (.inr ⟨hc0,?_⟩);first | omega | (simp;omega))]
           rw [HPC]
           clear HPC hneg hbody
           have HC0:=Lib.hid hc0
           clear hc0
           go_enter Tryz.func106,Tryz.ntmps106
           go_wp2
           refine bodyPost_ret (v:=.tuple #[.agg #[.bool false,.slice none 0 0],.bool false]) (by simp [results,Tryz.results106,go_sem]) rfl ⟨?_,rfl⟩
           exact(by repeat (first | exact Below.refl _ _ | assumption | refine Below.drew ?_ | refine Below.drewN' ?_ _ | refine Below.alloc ?_ (by first | assumption | (simp;done) | (simp;omega) | omega) _ | refine Below.setCell ?_ (by first | assumption | (simp;done) | (simp;omega) | omega) _)))
    · have hnb : ¬ badL (b) := by
        unfold badL
        rw [hbody,hc0]
        rintro(h | h | ⟨h,h'⟩)
        · omega
        · omega
        · exact hzero ⟨Option.some.inj h,h'⟩
      have hpc:parseC (b)=if b.all isDig then some (false,val (dec b).reverse) else none:=by unfold parseC;rw [if_neg hnb,hbody,hneg]
      rw [hpc]
      generalize hpo:(if b.all isDig then some (false,val (dec b).reverse) else none)=po
      have HPO:=Lib.hid hpo
      clear hpc hpo hnb hneg hbody
      have HC0:=Lib.hid hc0
      clear hc0
      have h48:(c0=48∧¬1<(b).length)∨((c0:Int) == 48)=false:=by
        by_cases h:c0=48
        · exact .inl ⟨h,fun h'=>hzero ⟨h,h'⟩⟩
        · right;simp;omega
      clear hzero
      obtain⟨HR,HX,HB2,HZ⟩:=two_box w 121 121 [.bool false,.slice none 0 0] [.bool false,.slice none 0 0]
      rcases h48 with⟨rfl,h48⟩ | h48
      all_goals first
        | (fail)
        | (go_enter Tryz.func106, Tryz.ntmps106
           go_wp2_with (at_make;go_loud (refine wpList_mk rfl _ _ 108 rfl 5 _ _ Tryz.underlying108 Tryz.info5 rfl _ _ _ _ rfl rfl (b.length) (b.length) (by omega) (by omega) (by omega) (by omega) (by unfold maxLen;omega) ?_;intro g w1 hg harr hbl hsz;have q1:=(HX.out.keep hbl).cell' (i:=1) rfl;have f1:=(HX.out.keep hbl).frozen 1))
           have hgs:g=w.heap.size+2:=by have h1:=hg.out;rw [HZ.out] at h1;exact h1
           have HGS:=Lib.hid hgs
           clear hgs
           have HXS:=Lib.hid ((HX.out.keep hbl).store 1 (.slice (some ⟨g,0,none⟩) b.length b.length))
           have HRS:=Lib.hid ((HR.out.keep hbl).far (p:=⟨w.heap.size+1,1,none⟩) (by show w.heap.size≠w.heap.size+1;omega) (.slice (some ⟨g,0,none⟩) b.length b.length))
           have hS1:Hid (Arr (w1.setCell ⟨w.heap.size+1,1,none⟩ (.slice (some ⟨g,0,none⟩) b.length b.length)) g 5 (B8 (List.replicate b.length 0 ++ (dec (b.take 0)).reverse))):=by
             have h:=harr.out.far (p:=⟨w.heap.size+1,1,none⟩) (by have:=HGS.out;show g≠w.heap.size+1;omega) (.slice (some ⟨g,0,none⟩) b.length b.length)
             show Arr _ _ _ _
             have e:B8 (List.replicate b.length 0 ++ (dec (b.take 0)).reverse)=List.replicate b.length (.int .u8 0):=by simp [dec,B8]
             rw [e];exact h
           have hB1:=(HB2.trans (hbl.mono (by rw [HZ.out];omega))).setCell (p:=⟨w.heap.size+1,1,none⟩) (by show w.heap.size≤w.heap.size+1;omega) (.slice (some ⟨g,0,none⟩) b.length b.length)
           clear harr q1 f1 HR HX HB2 hbl hg
           clear hv hv'
           go_loopw [45] (fun iv wr => ∃ k : Nat, k ≤ b.length ∧ iv = .int .i64 k ∧ Hid ((b.take k).all isDig = true) ∧ Hid (Arr wr g 5 (B8 (List.replicate (b.length - k) 0 ++ (dec (b.take k)).reverse))) ∧
               Hid (Arr wr (w.heap.size+1) 121 [.bool false,.slice (some ⟨g,0,none⟩) b.length b.length])∧Hid (Arr wr w.heap.size 121 [.bool false,.slice none 0 0])∧Below w.heap.size w wr)
             (fun iv _=>b.length - (intOf iv).toNat)
           case atStart=>exact⟨0,by omega,rfl,rfl,hS1,HXS,HRS,hB1⟩
           case round=>
             clear hS1 HXS HRS hB1
             obtain⟨k,hk,rfl,hall,ha,hx,hr,hb⟩:=hrel
             have x0:=hx.out.cell' (i:=0) rfl
             have x1:=hx.out.cell' (i:=1) rfl
             have xf1:=hx.out.frozen 1
             by_cases hlt:k<b.length
             · obtain⟨c,hc⟩:∃c,b[k]? = some c:=⟨_,List.getElem?_eq_getElem hlt⟩
               have hcb:=hby.get hc
               have hgk:=get_mks hc hcb (by rw [size_mks];exact hlt)
               have hte:b.take (k+1)=b.take k ++ [c]:=by
                 have:=List.getElem?_eq_some_iff.1 hc
                 rw [List.take_succ_eq_append_getElem this.1,this.2]
               by_cases hd:48≤c∧c≤57
               · obtain⟨hd1,hd2⟩:=hd
                 have HALL:Hid ((b.take (k+1)).all isDig=true):=by
                   show _=_
                   rw [hte,List.all_append,hall.out]
                   simp [isDig,hd1,hd2]
                 have hget:(List.replicate (b.length - k) 0 ++ (dec (b.take k)).reverse)[b.length - 1 - k]? = some 0:=by
                   rw [List.getElem?_append_left (by simp;omega),List.getElem?_replicate,if_pos (by omega)]
                 have hc2:=ha.out.cell' (B8_get hget)
                 have hfr:=ha.out.frozen (b.length - 1 - k)
                 have hst:=ha.out.store (b.length - 1 - k) (.int .u8 ((c - 48:Nat):Int))
                 rw [B8_set,dec_step hc rfl] at hst
                 have ecast:((c - 48:Nat):Int)=(c:Int) - 48:=by omega
                 rw [ecast] at hst
                 have HST:=Lib.hid hst
                 have HX2:=Lib.hid (hx.out.far (p:=⟨g,b.length - 1 - k,none⟩) (by have:=HGS.out;show w.heap.size+1≠g;omega) (.int .u8 ((c:Int) - 48)))
                 have HR2:=Lib.hid (hr.out.far (p:=⟨g,b.length - 1 - k,none⟩) (by have:=HGS.out;show w.heap.size≠g;omega) (.int .u8 ((c:Int) - 48)))
                 have hB2:=hb.setCell (p:=⟨g,b.length - 1 - k,none⟩) (by have:=HGS.out;show w.heap.size≤g;omega) (.int .u8 ((c:Int) - 48))
                 have b1:0≤(b.length:Int) - 1 - k:=by omega
                 have b2:(b.length:Int) - 1 - k<b.length:=by omega
                 have b3:((b.length:Int) - 1 - k).toNat=b.length - 1 - k:=by omega
                 have hk0:(0:Int)≤(k:Int):=by omega
                 have hk1:(k:Int)<b.length:=by omega
                 clear hst ecast hget hc hte hr hx
                 go_wp2
                 go_region
                 go_wp2
                 go_roundw
                 case rel=>exact⟨k+1,by omega,by go_num,HALL,HST,HX2,HR2,hB2.drew⟩
                 case measure=>simp [intOf];omega
               · have HPN : Hid (b.all isDig = false) := by
                   show _=_
                   rw [List.all_eq_false]
                   exact⟨c,List.mem_of_getElem? hc,by simp [isDig];omega⟩
                 clear hc hte hx
                 by_cases hd1:c<48
                 all_goals
                   first | have hd2:¬57<c:=by omega | have hd2:57<c:=by omega
                   go_wp2_with ((with_reducible show wpList _ _ _ (Oper.mk none (Op.store 121 (Operand.tmp 2) (Operand.tmp 58)) _ _ _ _ :: _) _ _);go_loud (refine wpList_sr rfl rfl 121 (.tmp 2) (.tmp 58) rfl (w.heap.size) [.bool false,.slice none 0 0] rfl rfl 121 _ hr.out _ Tryz.sz121 (by first | rfl | simp) (by first | rfl | simp) (by first | rfl | simp [Value.oneCell']) ?_;intro w5 hr5 hg5 hz5))
                   have r0:=hr5.out.cell' (i:=0) rfl
                   have r1:=hr5.out.cell' (i:=1) rfl
                   refine bodyPost_ret (v:=.tuple #[.agg #[.bool false,.slice none 0 0],.bool false]) (by simp [results,Tryz.results106,go_sem,r0,r1]) rfl ?_
                   rw [←HPO.out,HPN.out]
                   exact⟨hb.grown hg5 hb.size (fun k e=>by have:=Option.some.inj e;omega),rfl⟩
             · obtain rfl:k=b.length:=by omega
               have hall':=hall.out
               rw [List.take_length] at hall'
               have HA2:=Lib.hid hall'
               have htd:=ten_dec hall'
               have hrd:=ha.out.rd
               rw [List.take_length,Nat.sub_self,List.replicate_zero,List.nil_append] at hrd
               have hln:Hid (b.length=(dec b).reverse.length):=by show _=_;simp [dec]
               have hrx:=hr.out.far (p:=⟨w.heap.size+1,1,none⟩) (by show w.heap.size≠w.heap.size+1;omega)
               clear hall hall' ha
               go_wp2_with (first | (go_at_call 124;go_loud (refine(trim_any _ _ _ (dec b).reverse _ hln hrd htd (Nat.le_refl _) (by unfold maxLen;omega)).mono ?_;rintro e w' ⟨kk,rfl,hkk,hkn,hrr,rfl⟩)) | ((with_reducible show wpList _ _ _ (Oper.mk none (Op.store 121 (Operand.tmp 2) (Operand.tmp 76)) _ _ _ _ :: _) _ _);go_loud (refine wpList_sr rfl rfl 121 (.tmp 2) (.tmp 76) rfl (w.heap.size) [.bool false,.slice (some ⟨g,0,none⟩) kk b.length] rfl rfl 121 _ (hrx _) _ Tryz.sz121 (by first | rfl | simp) (by first | rfl | simp) (by first | rfl | simp [Value.oneCell']) ?_;intro w5 hr5 hg5 hz5)))
               have r0:=hr5.out.cell' (i:=0) rfl
               have r1:=hr5.out.cell' (i:=1) rfl
               refine bodyPost_ret (v:=.tuple #[.agg #[.bool false,.slice (some ⟨g,0,none⟩) kk b.length],.bool true]) (by simp [results,Tryz.results106,go_sem,r0,r1]) rfl ?_
               rw [←HPO.out,if_pos HA2.out]
               refine⟨(hb.setCell (by show w.heap.size≤w.heap.size+1;omega) _).grown hg5 (by have:=hb.size;simpa using this) (fun k e=>by have:=Option.some.inj e;omega),_,kk,b.length,rfl,hkk,?_,?_,?_,?_⟩
               · have:=hkn;simp [dec] at this;omega
               · have:=hkn;simp [dec] at this;omega
               · refine(hrr.setCell _ ?_).grown hg5 ?_
                 · rintro ad e;obtain rfl:=Option.some.inj e;have:=HGS.out;show g≠w.heap.size+1;omega
                 · rintro ad e;obtain rfl:=Option.some.inj e;intro h;have h2:g=w.heap.size:=Option.some.inj h;have:=HGS.out;omega
               · rintro ad e;obtain rfl:=Option.some.inj e;have:=HGS.out;show w.heap.size≤g;omega)
set_option maxHeartbeats 1000000 in
theorem read_nil (w:World):Calls Tryz.prog 106 #[.string (mks [])] w (ReadPost (parseC []) w):=by
  have HPC:parseC []=none:=rfl
  rw [HPC]
  go_enter Tryz.func106,Tryz.ntmps106
  go_wp2
  refine bodyPost_ret (v:=.tuple #[.agg #[.bool false,.slice none 0 0],.bool false]) (by simp [results,Tryz.results106,go_sem]) rfl ⟨?_,rfl⟩
  exact(by repeat (first | exact Below.refl _ _ | assumption | refine Below.drew ?_ | refine Below.drewN' ?_ _ | refine Below.alloc ?_ (by first | assumption | (simp;done) | (simp;omega) | omega) _ | refine Below.setCell ?_ (by first | assumption | (simp;done) | (simp;omega) | omega) _))
theorem read_any (l:List Nat) (w:World) (hby:By l):Calls Tryz.prog 106 #[.string (mks l)] w (ReadPost (parseC l) w):=by
  by_cases h1:1<l.length
  · by_cases h2:l[0]? = some 45
    · match l,hby,h1,h2 with
      | c :: b,hby,h1,h2=>
        obtain rfl:c=45:=by simpa using h2
        have hneg:negL (45 :: b)=true:=by unfold negL;exact decide_eq_true ⟨h1,rfl⟩
        exact read_A b w hby.tail (by simp at h1;exact h1) hneg (by unfold bodyL;rw [hneg];rfl)
    · have hneg:negL l=false:=by unfold negL;exact decide_eq_false (fun h=>h2 h.2)
      exact read_B l w hby h1 h2 hneg (by unfold bodyL;rw [hneg];rfl)
  · by_cases h0:l = []
    · subst h0;exact read_nil w
    · have hl:0<l.length:=List.length_pos_iff.2 h0
      have hneg:negL l=false:=by unfold negL;exact decide_eq_false (fun h=>h1 h.1)
      exact read_C l w hby (by omega) hl hneg (by unfold bodyL;rw [hneg];rfl)
end Go.Proofs.YtijoollonkibfaaGreatDoor
namespace Go.Proofs.YtijoollonkibfaaGreatDoor
open Go.RowKit
def NumV (B:Nat) (w:World) (o:Option (Bool×Nat)) (v0 v1:Value):Prop:=
 match o with
 | none=>v0=.bool false∧v1=.slice none 0 0
 | some (neg,m)=>∃A n c,v0=.bool neg∧v1=.slice A n c∧Hid (n=(dg m).length)∧n≤400∧n≤c∧Rd w A (B8 (dg m))∧From B A
theorem NumV.keep {B:Nat} {w w':World} {o:Option (Bool×Nat)} {v0 v1:Value} (h:NumV B w o v0 v1) (hb:Below w.heap.size w w'):NumV B w' o v0 v1:=by
 match o,h with
 | none,h=>exact h
 | some (neg,m),⟨A,n,c,h1,h2,h3,h4,h5,h6,h7⟩=>exact⟨A,n,c,h1,h2,h3,h4,h5,h6.keep hb,h7⟩
theorem NumV.grown {B:Nat} {w w':World} {o:Option (Bool×Nat)} {v0 v1:Value} {g:Nat} (h:NumV B w o v0 v1) (hb:w.grownBy w' (some g)) (hg:g<B):NumV B w' o v0 v1:=by
 match o,h with
 | none,h=>exact h
 | some (neg,m),⟨A,n,c,h1,h2,h3,h4,h5,h6,h7⟩=>
  refine⟨A,n,c,h1,h2,h3,h4,h5,h6.grown hb ?_,h7⟩
  intro ad e h
  have:=h7 ad e
  have:=Option.some.inj h
  omega
theorem NumV.setCell {B:Nat} {w:World} {o:Option (Bool×Nat)} {v0 v1:Value} {p:Addr} (h:NumV B w o v0 v1) (u:Value) (hp:p.block<B):NumV B (w.setCell p u) o v0 v1:=by
 match o,h with
 | none,h=>exact h
 | some (neg,m),⟨A,n,c,h1,h2,h3,h4,h5,h6,h7⟩=>exact⟨A,n,c,h1,h2,h3,h4,h5,h6.setCell u (fun ad e=>by have:=h7 ad e;omega),h7⟩
theorem NumV.drew {B:Nat} {w:World} {o:Option (Bool×Nat)} {v0 v1:Value} (h:NumV B w o v0 v1):NumV B w.drew o v0 v1:=by
 match o,h with
 | none,h=>exact h
 | some (neg,m),h=>exact h
theorem NumV.mono {B B':Nat} {w:World} {o:Option (Bool×Nat)} {v0 v1:Value} (h:NumV B w o v0 v1) (hB:B'≤B):NumV B' w o v0 v1:=by
 match o,h with
 | none,h=>exact h
 | some (neg,m),⟨A,n,c,h1,h2,h3,h4,h5,h6,h7⟩=>exact⟨A,n,c,h1,h2,h3,h4,h5,h6,fun ad e=>Nat.le_trans hB (h7 ad e)⟩
theorem NumV.kind {B:Nat} {w:World} {o:Option (Bool×Nat)} {v0 v1:Value} (h:NumV B w o v0 v1):(∃b,v0=.bool b)∧∃A n c,v1=.slice A n c:=by
 match o,h with
 | none,⟨h1,h2⟩=>exact⟨⟨_,h1⟩,_,_,_,h2⟩
 | some (neg,m),⟨A,n,c,h1,h2,_⟩=>exact⟨⟨_,h1⟩,_,_,_,h2⟩
theorem read_num (l:List Nat) (w:World) (hby:By l):Calls Tryz.prog 106 #[.string (mks l)] w fun e w'=>
  Below w.heap.size w w'∧∃(b:Bool) (A:Option Addr) (n c:Nat),e=.returned (.tuple #[.agg #[.bool b,.slice A n c],.bool (parseC l).isSome])∧NumV w.heap.size w' (parseC l) (.bool b) (.slice A n c):=by
 refine(read_any l w hby).mono fun e w' ⟨hb,h⟩=>⟨hb,?_⟩
 cases hp:parseC l with
 | none=>rw [hp] at h;exact⟨false,none,0,0,h,rfl,rfl⟩
 | some x=>
  obtain⟨neg,m⟩:=x
  rw [hp] at h
  obtain⟨A,n,c,he,h3,h4,h5,h6,h7⟩:=h
  exact⟨neg,A,n,c,he,A,n,c,rfl,rfl,h3,h4,h5,h6,h7⟩
end Go.Proofs.YtijoollonkibfaaGreatDoor
namespace Go.Proofs.YtijoollonkibfaaGreatDoor
open Go.RowKit
def Nm (B:Nat) (w:World) (x:Bool×Nat) (v0 v1:Value):Prop:=
 ∃A n c,v0=.bool x.1∧v1=.slice A n c∧Hid (n=(dg x.2).length)∧n≤c∧Rd w A (B8 (dg x.2))∧From B A
def sumN (x y:Bool×Nat):Bool×Nat:=
 if x.1=y.1 then (x.1,x.2+y.2) else if x.2=y.2 then (false,0) else if x.2<y.2 then (y.1,y.2 - x.2) else (x.1,x.2 - y.2)
def RetN (w:World) (x:Bool×Nat) (e:Ending) (w':World):Prop:=
 ∃v0 v1,e=.returned (.agg #[v0,v1])∧Nm w.heap.size w' x v0 v1∧Below w.heap.size w w'
end Go.Proofs.YtijoollonkibfaaGreatDoor
namespace Go.Proofs.YtijoollonkibfaaGreatDoor
open Go.RowKit
theorem asc_step {ds:List Nat} {k d n:Nat} (hd:ds[k]? = some d) (hn:ds.length=n) :
  ((List.replicate (n - k) 0 ++ (asc (ds.take k)).reverse).set (n - 1 - k) (48+d))=List.replicate (n - (k+1)) 0 ++ (asc (ds.take (k+1))).reverse:=by
 have h:=List.getElem?_eq_some_iff.1 hd
 have e1:List.replicate (n - k) 0=List.replicate (n - (k+1)) 0 ++ [0]:=by
  rw [←List.replicate_succ'];congr 1;have:=h.1;omega
 rw [e1,List.append_assoc,show n - 1 - k=n - (k+1) by omega]
 have e2:([0] ++ (asc (ds.take k)).reverse)=0 :: (asc (ds.take k)).reverse:=rfl
 rw [e2,set_mid (by simp),List.append_assoc]
 congr 1
 rw [List.take_succ_eq_append_getElem h.1,h.2]
 simp [asc]
def TextPost (neg:Bool) (m:Nat) (w:World) (e:Ending) (w':World):Prop:=
 e=.returned (if (dg m).length≤400 then .tuple #[.string (mks (ntx neg m)),.int .i64 0] else .tuple #[.string (mks []),.int .i64 6])∧Below w.heap.size w w'
set_option maxRecDepth 4000 in
set_option maxHeartbeats 4000000 in
theorem text_any (neg:Bool) (A:Option Addr) (n c m:Nat) (w:World) (hn:Hid (n=(dg m).length)) (hr:Rd w A (B8 (dg m))) (hm:n≤4294967296) :
  Calls Tryz.prog 74 #[.agg #[.bool neg,.slice A n c]] w (TextPost neg m w):=by
 have hB0:Below w.heap.size w (w.alloc (.cells #[.bool neg,.slice A n c] 121)):=(Below.refl _ _).alloc (Nat.le_refl _) _
 by_cases hlong:n≤400
 ·by_cases h0:n=0
  ·subst h0
   have hm0:m=0:=by have:=hn.out;exact dg_length_zero.1 this.symm
   subst hm0
   go_enter Tryz.func74,Tryz.ntmps74
   go_wp2
   go_ret2
   refine⟨?_,hB0⟩
   rw [if_pos (by simp [dg_zero])]
   rfl
  ·have hn0:0<n:=by omega
   have h0':((n:Int) == 0)=false:=by simp;omega
   have hlong':¬(400:Int)<n:=by omega
   have HP:Hid (TextPost neg m w=fun e w'=>e=.returned (.tuple #[.string (mks ((if neg then [45] else []) ++ (asc (dg m)).reverse)),.int .i64 0])∧Below w.heap.size w w'):=by
    show _=_
    funext e w'
    unfold TextPost
    rw [if_pos (by have:=hn.out;omega)]
    unfold ntx
    rw [if_neg (by rintro rfl;have:=hn.out;rw [dg_zero] at this;simp at this;omega)]
   rw [HP.out]
   clear HP h0
   have ht:=ten_dg m
   generalize dg m=ds at *
   have hr1:=hr.keep hB0
   have hsz0:(w.alloc (.cells #[.bool neg,.slice A n c] 121)).heap.size=w.heap.size+1:=by simp
   have hbox:Arr (w.alloc (.cells #[.bool neg,.slice A n c] 121)) w.heap.size 121 [.bool neg,.slice A n c]:=Arr.new _ _ _
   have HBOX:=Lib.hid hbox
   have HSZ:=Lib.hid hsz0
   clear hsz0 hbox
   go_enter Tryz.func74,Tryz.ntmps74
   go_wp2_with (first | ((at_make;go_loud (refine wpList_mk rfl _ _ 108 rfl 5 _ _ Tryz.underlying108 Tryz.info5 rfl _ _ _ _ rfl rfl (n) (n) (by omega) (by omega) (by omega) (by omega) (by unfold maxLen;omega) ?_;intro g w1 hg harr hbl hsz));have q1:=(HBOX.out.keep hbl).cell' (i:=1) rfl))
   have hgs:w.heap.size<g:=by have h1:=hg.out;rw [HSZ.out] at h1;omega
   have hS1:Hid (Arr w1 g 5 (B8 (List.replicate n 0 ++ (asc (ds.take 0)).reverse))):=by
    have h:=harr.out
    show Arr _ _ _ _
    have e:B8 (List.replicate n 0 ++ (asc (ds.take 0)).reverse)=List.replicate n (.int .u8 0):=by simp [asc,B8]
    rw [e];exact h
   have hB1:Below w.heap.size w w1:=hB0.trans (hbl.mono (by rw [HSZ.out];omega))
   have hbx1:=Lib.hid (HBOX.out.keep hbl)
   clear harr q1
   go_loopw [21] (fun iv wr=>∃k:Nat,k≤n∧iv=.int .i64 k∧Hid (Arr wr g 5 (B8 (List.replicate (n - k) 0 ++ (asc (ds.take k)).reverse)))∧Hid (Arr wr w.heap.size 121 [.bool neg,.slice A n c])∧Below w.heap.size w wr)
    (fun iv _=>n - (intOf iv).toNat)
   case atStart=>exact⟨0,by omega,rfl,hS1,hbx1,hB1⟩
   case round=>
    obtain⟨k,hk,rfl,ha,hbx,hb⟩:=hrel
    have q0:=hbx.out.cell' (i:=0) rfl
    have q1:=hbx.out.cell' (i:=1) rfl
    by_cases hlt:k<n
    ·obtain⟨d,hd⟩:∃d,ds[k]? = some d:=⟨_,List.getElem?_eq_getElem (by have:=hn.out;omega)⟩
     have hd10:=ht.get hd
     obtain⟨ad,rfl,hcd0⟩:=hr.at_ (B8_get hd)
     have hcd:=(hb.cell (block_lt_of_cell hcd0)).trans hcd0
     have hget:(List.replicate (n - k) 0 ++ (asc (ds.take k)).reverse)[n - 1 - k]? = some 0:=by
      rw [List.getElem?_append_left (by simp;omega),List.getElem?_replicate,if_pos (by omega)]
     have hc2:=ha.out.cell' (B8_get hget)
     have hfr:=ha.out.frozen (n - 1 - k)
     have hst:=ha.out.store (n - 1 - k) (.int .u8 ((48+d:Nat):Int))
     rw [B8_set,asc_step hd hn.out.symm] at hst
     have ecast:((48+d:Nat):Int)=48+(d:Int):=by omega
     rw [ecast] at hst
     have HST:=Lib.hid hst
     have hbx2:=Lib.hid (hbx.out.far (p:=⟨g,n - 1 - k,none⟩) (by show w.heap.size≠g;omega) (.int .u8 (48+(d:Int))))
     have hB2:=hb.setCell (p:=⟨g,n - 1 - k,none⟩) (by show w.heap.size≤g;omega) (.int .u8 (48+(d:Int)))
     have b1:0≤(n:Int) - 1 - k:=by omega
     have b2:(n:Int) - 1 - k<n:=by omega
     have b3:((n:Int) - 1 - k).toNat=n - 1 - k:=by omega
     clear hst ecast hget hcd0 hd hbx
     go_wp2
     go_region
     go_wp2
     go_roundw
     case rel=>exact⟨k+1,by omega,by go_num,HST,hbx2,hB2.drew⟩
     case measure=>simp [intOf];omega
    ·obtain rfl:k=n:=by omega
     have e1:List.replicate (k - k) 0 ++ (asc (ds.take k)).reverse=(asc ds).reverse:=by
      rw [Nat.sub_self,List.take_of_length_le (by have:=hn.out;omega)];rfl
     have hrd:=ha.out.rd
     rw [e1] at hrd
     have hcv:=run_str (P:=Tryz.prog) wr 108 9 5 Tryz.underlying108 Tryz.underlying5 Tryz.underlying9 (some ⟨g,0,none⟩) k k _ hrd (by have:=hn.out;simp [asc];omega)
     have hl:(asc ds).length≤400:=by have:=hn.out;simp [asc];omega
     clear e1 hrd ha hS1
     cases neg
     ·go_wp2
      go_ret2
      exact⟨rfl,hb⟩
     ·have e45:(ByteArray.mk #[45]:ByteArray)=mks [45]:=mks_lit1 45
      go_wp2
      go_ret2
      exact⟨rfl,hb⟩
 ·have hlong':(400:Int)<n:=by omega
  go_enter Tryz.func74,Tryz.ntmps74
  go_wp2
  go_ret2
  refine⟨?_,hB0⟩
  rw [if_neg (by have:=hn.out;omega)]
  rfl
end Go.Proofs.YtijoollonkibfaaGreatDoor
namespace Go.Proofs.YtijoollonkibfaaGreatDoor
open Go.RowKit
def tS (x:Bool×Nat):List Nat:=if (dg x.2).length≤400 then ntx x.1 x.2 else []
def tE (x:Bool×Nat):Int:=if (dg x.2).length≤400 then 0 else 6
theorem text2_any (neg:Bool) (A:Option Addr) (n c m:Nat) (w:World) (hn:Hid (n=(dg m).length)) (hr:Rd w A (B8 (dg m))) (hm:n≤4294967296) :
  Calls Tryz.prog 74 #[.agg #[.bool neg,.slice A n c]] w fun e w'=>e=.returned (.tuple #[.string (mks (tS (neg,m))),.int .i64 (tE (neg,m))])∧Below w.heap.size w w':=by
 refine(text_any neg A n c m w hn hr hm).mono fun e w' ⟨he,hb⟩=>⟨?_,hb⟩
 rw [he]
 unfold tS tE
 split <;> rfl
def binV (f:Bool×Nat→Bool×Nat→Bool×Nat) (o o':Option (Bool×Nat)):Value:=
 match o,o' with
 | some x,some y=>.tuple #[.string (mks (tS (f x y))),.int .i64 (tE (f x y))]
 | _,_=>.tuple #[.string (mks []),.int .i64 3]
def negN (x:Bool×Nat):Bool×Nat:=(!x.1 && decide (0<x.2),x.2)
end Go.Proofs.YtijoollonkibfaaGreatDoor
namespace Go.Proofs.YtijoollonkibfaaGreatDoor
open Go.RowKit
def dmQ (x y:Bool×Nat):Nat:=if x.1≠y.1∧x.2 % y.2≠0 then x.2 / y.2+1 else x.2 / y.2
def dmR (x y:Bool×Nat):Nat:=if x.1≠y.1∧x.2 % y.2≠0 then y.2 - x.2 % y.2 else x.2 % y.2
def dmQN (x y:Bool×Nat):Bool×Nat:=(x.1 != y.1 && decide (0<dmQ x y),dmQ x y)
def dmRN (x y:Bool×Nat):Bool×Nat:=(y.1 && decide (0<dmR x y),dmR x y)
end Go.Proofs.YtijoollonkibfaaGreatDoor
namespace Go.Proofs.YtijoollonkibfaaGreatDoor
open Go.RowKit
def cmpP (x y:Bool×Nat):Int:=if x.1 then (if y.1 then cmpN y.2 x.2 else -1) else (if y.1 then 1 else cmpN x.2 y.2)
set_option maxHeartbeats 2000000 in
theorem valid_any (l:List Nat) (w:World) (hl:By l):Calls Tryz.prog 78 #[.string (mks l)] w fun e w'=>
  e=.returned (.bool (parseC l).isSome)∧Below w.heap.size w w':=by
 have H1:=Lib.hid (read_num l w hl)
 generalize parseC l=o at *
 go_enter Tryz.func78,Tryz.ntmps78
 go_wp2_with (go_at_call 106;go_loud (refine H1.out.mono ?_;rintro e w1 ⟨hb1,b1,A1,n1,c1,rfl,_⟩))
 go_ret
 exact⟨rfl,hb1.alloc hb1.size _⟩
end Go.Proofs.YtijoollonkibfaaGreatDoor
namespace Go.Proofs.YtijoollonkibfaaGreatDoor
open Go.RowKit
def ShortPost (m by_:Nat) (w:World) (e:Ending) (w':World):Prop:=
 ∃A n c,e=.returned (.tuple #[.slice A n c,.int .i64 ((m % by_:Nat):Int)])∧Hid (n=(dg (m / by_)).length)∧n≤c∧Rd w' A (B8 (dg (m / by_)))∧From w.heap.size A∧Below w.heap.size w w'
end Go.Proofs.YtijoollonkibfaaGreatDoor
namespace Go.Proofs.YtijoollonkibfaaGreatDoor
open Go.RowKit
section
variable {P:Program} {w:World} {ops:Array Oper} {rest:List Oper} {o:Oper} {a:Act} {Q:Exit→Act→World→Prop}
theorem wpList_apl (hg:o.guard=none) (s x:Operand) (t:TypeId) (ho:o.op=.call { callee:=.builtin .append,args:=#[s,x],argTypes:=#[t,t] }) (base:Nat) (e:TypeId) (z:Value) (bytes:Nat)
  (ht:P.underlying t=some (.slice e)) (h2:(P.info? e).map (fun i=>(i.zero,i.size,i.bytes))=some (some z,1,bytes)) (hz:z.cells=#[z])
  (v:Value) (n:Nat) (xs:List Value) (hs:a.eval s=v) (hown:w.ownsRow base e 1 v n xs) (A:Option Addr) (m c:Nat) (news:List Value) (hx:a.eval x=.slice A m c)
  (hr:Rd w A news) (hm:news.length=m) (hA:A=none→c=0) (h1:∀u∈news,u.oneCell'=true) (hmx:n+m≤maxLen) (hb:(n+m)*bytes≤140737488355328) (hbase:base≤w.heap.size)
  (hK:∀v' w',w'.ownsRow base e 1 v' (n+m) (xs ++ news)→w.grownBy w' v.ownBlock→wpList P ops Q rest (a.put o.dst v') w'):wpList P ops Q (o :: rest) a w:=by
 obtain⟨i,hi,hz1,hz2,hz3⟩:=info_parts h2
 cases A with
 | none=>
  have hn:news = []:=by
   cases news with
   | nil=>rfl
   | cons u l=>obtain⟨ad,h,_⟩:=hr 0 u rfl;cases h
  subst hn
  have hm0:m=0:=by simpa using hm.symm
  subst hm0
  have hc0:=hA rfl
  subst hc0
  exact wpList_append_own_none hg s x t ho base e i 1 ht hi v n xs hs hown hx (hK v w (by simpa using hown) (World.grownBy.refl _ _))
 | some ad=>
  refine wpList_append_own w hg s x t ho base e i z 1 bytes ht hi hz1 hz2 hz3 (by rw [hz];rfl) (by decide) v n xs hs hown ad m c news hx (by omega) ?_ h1 hmx hb hbase (fun v' w' h3 h4 _=>hK v' w' h3 h4)
  intro j y hj
  obtain⟨ad',e',hc⟩:=hr j y hj
  obtain rfl:=Option.some.inj e'
  exact hc
end
theorem Below.allocDrew {B:Nat} {a w:World} (h:Below B a w.drew) (hB:B≤w.heap.size) (o:Obj):Below B a (w.alloc o).drew:=Below.alloc (w:=w.drew) h hB o
theorem own_rd2 {w:World} {base:Nat} {e:TypeId} {v:Value} {n:Nat} {xs:List Value} (h:w.ownsRow base e 1 v n xs) :
  ∃A c,v=.slice A n c∧Hid (n=xs.length)∧n≤c∧c≤maxLen∧Rd w A xs∧From base A∧(A=none→c=0):=by
 obtain⟨A,c,rfl,h1,h2,h3,h4,h5⟩:=own_rd h
 refine⟨A,c,rfl,h1,h2,h3,h4,h5,?_⟩
 rintro rfl
 rcases h.2 with⟨he,_⟩ | ⟨g,cap,cur,he,_⟩
 ·simp at he;omega
 ·simp at he
def RetSN (w:World) (xs:List Value) (e:Ending) (w':World):Prop:=
 ∃A n c,e=.returned (.slice A n c)∧Hid (n=xs.length)∧n≤c∧Rd w' A xs∧From w.heap.size A∧Below w.heap.size w w'∧(A=none→c=0)
section
variable {P:Program} {w:World} {ops:Array Oper} {o:Oper} {a:Act} {K:Act→World→Prop} {Q:Exit→Act→World→Prop} {E:Prop}
end
end Go.Proofs.YtijoollonkibfaaGreatDoor
namespace Go.Proofs.YtijoollonkibfaaGreatDoor
open Go.RowKit
def dgb (b:Nat) (n:Nat):List Nat:=if _h:n=0∨b<2 then [] else n % b :: dgb b (n / b)
termination_by n
decreasing_by exact Nat.div_lt_self (by omega) (by omega)
def lenAt (w:World) (g i:Nat):Nat:=match w.cell? ⟨g,i,none⟩ with | some (.slice _ k _)=>k | _=>0
end Go.Proofs.YtijoollonkibfaaGreatDoor
namespace Go.Proofs.YtijoollonkibfaaGreatDoor
open Go.RowKit
def lead (z:Nat):List Nat→List Nat
  | []=>[]
  | c :: l=>if c=z then lead z l else c :: l
theorem lead_eq {z:Nat} {l:List Nat}:lead z (z :: l)=lead z l:=by simp [lead]
theorem lead_ne {z c:Nat} {l:List Nat} (h:c≠z):lead z (c :: l)=c :: l:=by simp [lead,h]
theorem lead_le (z:Nat) (l:List Nat):(lead z l).length≤l.length:=by
  induction l with
  | nil=>simp [lead]
  | cons c l ih=>unfold lead;split <;> simp;omega
theorem By.lead {z:Nat} {l:List Nat} (h:By l):By (lead z l):=by
  induction l with
  | nil=>exact h
  | cons c l ih => unfold Go.Proofs.YtijoollonkibfaaGreatDoor.lead; split; · exact ih h.tail
                   · exact h
def horF (b:Nat) (f:Nat→Nat) (l:List Nat) (a:Nat):Nat:=l.foldl (fun a c=>a*b+f c) a
def hor (b:Nat) (f:Nat→Nat) (l:List Nat):Nat:=horF b f l 0
theorem horF_append (b:Nat) (f:Nat→Nat) (l r:List Nat) (a:Nat):horF b f (l ++ r) a=horF b f r (horF b f l a):=List.foldl_append
theorem hor_step {b:Nat} {f:Nat→Nat} {l:List Nat} {k c:Nat} (h:l[k]? = some c):hor b f (l.take (k+1))=hor b f (l.take k)*b+f c:=by
  have h':=List.getElem?_eq_some_iff.1 h
  rw [List.take_succ_eq_append_getElem h'.1,h'.2]
  unfold hor
  rw [horF_append]
  rfl
theorem horF_lt {b:Nat} {f:Nat→Nat} {l:List Nat} (h:∀c∈l,f c<b) (a:Nat):horF b f l a<(a+1)*b ^ l.length:=by
  induction l generalizing a with
  | nil=>simp [horF]
  | cons c l ih=>
    have h1:=ih (fun d hd=>h d (List.mem_cons_of_mem _ hd)) (a*b+f c)
    refine Nat.lt_of_lt_of_le h1 ?_
    rw [List.length_cons,Nat.pow_succ,Nat.mul_comm (b ^ l.length),←Nat.mul_assoc]
    refine Nat.mul_le_mul_right _ ?_
    have:=h c List.mem_cons_self
    rw [Nat.add_mul];omega
theorem hor_dg_len {b:Nat} {f:Nat→Nat} {l:List Nat} (h:∀c∈l,f c<b) (hb:b≤1000):(dg (hor b f l)).length≤3*l.length:=by
  rw [dg_len_le]
  have h1:=horF_lt h 0
  refine Nat.lt_of_lt_of_le h1 ?_
  rw [Nat.pow_mul,Nat.zero_add,Nat.one_mul]
  exact Nat.pow_le_pow_left hb _
@[go_sem] theorem mks_isEmpty (l:List Nat):(mks l).toList.isEmpty=l.isEmpty:=by rw [toList_mks];cases l <;> rfl
@[go_sem] theorem mks_eq_nil (l:List Nat):((mks l).toList = [])=(l = []):=by rw [toList_mks];simp
theorem lead_split (z:Nat) (l:List Nat):l = []∨(∃t,l=z :: t)∨(∃c,l[0]? = some c∧c≠z∧lead z l=l):=by
  cases l with
  | nil=>exact .inl rfl
  | cons c t=>
    by_cases h:c=z
    · subst h;exact .inr (.inl ⟨t,rfl⟩)
    · exact .inr (.inr ⟨c,rfl,h,lead_ne h⟩)
def sigN (neg:Bool) (m:Nat):Bool×Nat:=(neg && decide (0<m),m)
end Go.Proofs.YtijoollonkibfaaGreatDoor
