/- The walk of read of integer. -/
import Derived.Test.YtnnnagnjikdnnaaGreatDoorMAa
set_option linter.unusedVariables false
set_option linter.unusedSimpArgs false
set_option linter.defProp false
set_option linter.constructorNameAsVariable false
namespace Go.Proofs.YtnnnagnjikdnnaaGreatDoor
open Go.RowKit
theorem dec_step {b : List Nat} {k c n : Nat} (hd : b[k]? = some c) (hn : b.length = n) :
    ((List.replicate (n - k) 0 ++ (dec (b.take k)).reverse).set (n - 1 - k) (c - 48))=List.replicate (n - (k+1)) 0 ++ (dec (b.take (k+1))).reverse:=by
  have h:=List.getElem?_eq_some_iff.1 hd
  have e1:List.replicate (n - k) 0=List.replicate (n - (k+1)) 0 ++ [0]:=by
    rw [←List.replicate_succ'];congr 1;have:=h.1;omega
  rw [e1,List.append_assoc,show n - 1 - k=n - (k+1) by omega]
  have e2:([0] ++ (dec (b.take k)).reverse)=0 :: (dec (b.take k)).reverse:=rfl
  rw [e2,set_mid (by simp),List.append_assoc]
  congr 1
  rw [List.take_succ_eq_append_getElem h.1,h.2]
  simp [dec]
def ReadPost (o:Option (Bool×Nat)) (w:World) (e:Ending) (w':World):Prop:=
  Below w.heap.size w w' ∧
  match o with
  | none=>e=.returned (.tuple #[.agg #[.bool false,.slice none 0 0],.bool false])
  | some (neg,m)=>∃A n c,e=.returned (.tuple #[.agg #[.bool neg,.slice A n c],.bool true])∧Hid (n=(dg m).length)∧n≤400∧n≤c∧Rd w' A (B8 (dg m))∧From w.heap.size A
theorem two_box (w : World) (t t' : TypeId) (xs ys : List Value) :
    Hid (Arr ((w.alloc (.cells xs.toArray t)).alloc (.cells ys.toArray t')) w.heap.size t xs)∧Hid (Arr ((w.alloc (.cells xs.toArray t)).alloc (.cells ys.toArray t')) (w.heap.size+1) t' ys) ∧
      Below w.heap.size w ((w.alloc (.cells xs.toArray t)).alloc (.cells ys.toArray t'))∧Hid (((w.alloc (.cells xs.toArray t)).alloc (.cells ys.toArray t')).heap.size=w.heap.size+2):=by
  refine⟨(Arr.new w t xs).alloc _,?_,((Below.refl _ _).alloc (Nat.le_refl _) _).alloc (by simp) _,?_⟩
  · have h:=Arr.new (w.alloc (.cells xs.toArray t)) t' ys
    have e:(w.alloc (.cells xs.toArray t)).heap.size=w.heap.size+1:=by simp
    rw [e] at h
    exact h
  · show _=_
    simp
set_option maxHeartbeats 2000000 in
theorem read_A (b : List Nat) (w : World) (hby : By b) (hv : 0 < b.length) (hneg : negL (45 :: b) = true) (hbody : bodyL (45 :: b) = b) :
    Calls Tryz.prog 141 #[.string (mks (45 :: b))] w (ReadPost (parseC (45 :: b)) w):=by
  obtain⟨c0,hc0⟩:∃c0,b[0]? = some c0:=⟨_,List.getElem?_eq_getElem (by omega)⟩
  have hc0b:=hby.get hc0
  have hg0:=get_mks hc0 hc0b (by rw [size_mks];omega)
  have hg45:=get_mks (l:=45 :: b) (i:=0) (c:=45) rfl (by omega) (by rw [size_mks];simp)
  have hb0:((b.length:Int) == 0)=false:=by simp;intro h;subst h;simp at hc0
  have hbp:0<b.length:=by omega
  by_cases hlong:400<b.length
  · first
      | (fail)
      | (have HPC : parseC (45 :: b) = none := by unfold parseC; rw [if_pos (by unfold badL; rw [hbody]; omega)]
         rw [HPC]
         clear HPC hneg hbody
         have HC0:=Lib.hid hc0
         clear hc0
         have hlong':(400:Int)<b.length:=by omega
         go_enter Tryz.func141,Tryz.ntmps141
         go_wp2
         refine bodyPost_ret (v:=.tuple #[.agg #[.bool false,.slice none 0 0],.bool false]) (by simp [results,Tryz.results141,go_sem]) rfl ⟨?_,rfl⟩
         exact(by repeat (first | exact Below.refl _ _ | assumption | refine Below.drew ?_ | refine Below.drewN' ?_ _ | refine Below.alloc ?_ (by first | assumption | (simp;done) | (simp;omega) | omega) _ | refine Below.setCell ?_ (by first | assumption | (simp;done) | (simp;omega) | omega) _)))
  · have hlong':¬(400:Int)<b.length:=by omega
    by_cases hzero:c0=48∧1<(45 :: b).length
    · first
        | (fail)
        | (obtain ⟨rfl, _⟩ := hzero
           have HPC:parseC (45 :: b)=none:=by unfold parseC;rw [if_pos (by unfold badL;rw [hbody];refine .inr (.inr ⟨hc0,?_⟩);first | omega | (simp;omega))]
           rw [HPC]
           clear HPC hneg hbody
           have HC0:=Lib.hid hc0
           clear hc0
           go_enter Tryz.func141,Tryz.ntmps141
           go_wp2
           refine bodyPost_ret (v:=.tuple #[.agg #[.bool false,.slice none 0 0],.bool false]) (by simp [results,Tryz.results141,go_sem]) rfl ⟨?_,rfl⟩
           exact(by repeat (first | exact Below.refl _ _ | assumption | refine Below.drew ?_ | refine Below.drewN' ?_ _ | refine Below.alloc ?_ (by first | assumption | (simp;done) | (simp;omega) | omega) _ | refine Below.setCell ?_ (by first | assumption | (simp;done) | (simp;omega) | omega) _)))
    · have hnb : ¬ badL (45 :: b) := by
        unfold badL
        rw [hbody,hc0]
        rintro(h | h | ⟨h,h'⟩)
        · omega
        · omega
        · exact hzero ⟨Option.some.inj h,h'⟩
      have hpc:parseC (45 :: b)=if b.all isDig then some (true,val (dec b).reverse) else none:=by unfold parseC;rw [if_neg hnb,hbody,hneg]
      rw [hpc]
      generalize hpo:(if b.all isDig then some (true,val (dec b).reverse) else none)=po
      have HPO:=Lib.hid hpo
      clear hpc hpo hnb hneg hbody
      have HC0:=Lib.hid hc0
      clear hc0
      have h48:(c0=48∧¬1<(45 :: b).length)∨((c0:Int) == 48)=false:=by
        by_cases h:c0=48
        · exact .inl ⟨h,fun h'=>hzero ⟨h,h'⟩⟩
        · right;simp;omega
      clear hzero
      obtain⟨HR,HX,HB2,HZ⟩:=two_box w 190 190 [.bool false,.slice none 0 0] [.bool true,.slice none 0 0]
      rcases h48 with⟨rfl,h48⟩ | h48
      all_goals first
        | (exact absurd (show 1<b.length+1 by omega) h48)
        | (go_enter Tryz.func141, Tryz.ntmps141
           go_wp2_with (at_make;go_loud (refine wpList_mk rfl _ _ 47 rfl 5 _ _ Tryz.underlying47 Tryz.info5 rfl _ _ _ _ rfl rfl (b.length) (b.length) (by omega) (by omega) (by omega) (by omega) (by unfold maxLen;omega) ?_;intro g w1 hg harr hbl hsz;have q1:=(HX.out.keep hbl).cell' (i:=1) rfl;have f1:=(HX.out.keep hbl).frozen 1))
           have hgs:g=w.heap.size+2:=by have h1:=hg.out;rw [HZ.out] at h1;exact h1
           have HGS:=Lib.hid hgs
           clear hgs
           have HXS:=Lib.hid ((HX.out.keep hbl).store 1 (.slice (some ⟨g,0,none⟩) b.length b.length))
           have HRS:=Lib.hid ((HR.out.keep hbl).far (p:=⟨w.heap.size+1,1,none⟩) (by show w.heap.size≠w.heap.size+1;omega) (.slice (some ⟨g,0,none⟩) b.length b.length))
           have hS1:Hid (Arr (w1.setCell ⟨w.heap.size+1,1,none⟩ (.slice (some ⟨g,0,none⟩) b.length b.length)) g 5 (B8 (List.replicate b.length 0 ++ (dec (b.take 0)).reverse))):=by
             have h:=harr.out.far (p:=⟨w.heap.size+1,1,none⟩) (by have:=HGS.out;show g≠w.heap.size+1;omega) (.slice (some ⟨g,0,none⟩) b.length b.length)
             show Arr _ _ _ _
             have e:B8 (List.replicate b.length 0 ++ (dec (b.take 0)).reverse)=List.replicate b.length (.int .u8 0):=by simp [dec,B8]
             rw [e];exact h
           have hB1:=(HB2.trans (hbl.mono (by rw [HZ.out];omega))).setCell (p:=⟨w.heap.size+1,1,none⟩) (by show w.heap.size≤w.heap.size+1;omega) (.slice (some ⟨g,0,none⟩) b.length b.length)
           clear harr q1 f1 HR HX HB2 hbl hg
           skip
           go_loopw [45] (fun iv wr => ∃ k : Nat, k ≤ b.length ∧ iv = .int .i64 k ∧ Hid ((b.take k).all isDig = true) ∧ Hid (Arr wr g 5 (B8 (List.replicate (b.length - k) 0 ++ (dec (b.take k)).reverse))) ∧
               Hid (Arr wr (w.heap.size+1) 190 [.bool true,.slice (some ⟨g,0,none⟩) b.length b.length])∧Hid (Arr wr w.heap.size 190 [.bool false,.slice none 0 0])∧Below w.heap.size w wr)
             (fun iv _=>b.length - (intOf iv).toNat)
           case atStart=>exact⟨0,by omega,rfl,rfl,hS1,HXS,HRS,hB1⟩
           case round=>
             clear hS1 HXS HRS hB1
             obtain⟨k,hk,rfl,hall,ha,hx,hr,hb⟩:=hrel
             have x0:=hx.out.cell' (i:=0) rfl
             have x1:=hx.out.cell' (i:=1) rfl
             have xf1:=hx.out.frozen 1
             by_cases hlt:k<b.length
             · obtain⟨c,hc⟩:∃c,b[k]? = some c:=⟨_,List.getElem?_eq_getElem hlt⟩
               have hcb:=hby.get hc
               have hgk:=get_mks hc hcb (by rw [size_mks];exact hlt)
               have hte:b.take (k+1)=b.take k ++ [c]:=by
                 have:=List.getElem?_eq_some_iff.1 hc
                 rw [List.take_succ_eq_append_getElem this.1,this.2]
               by_cases hd:48≤c∧c≤57
               · obtain⟨hd1,hd2⟩:=hd
                 have HALL:Hid ((b.take (k+1)).all isDig=true):=by
                   show _=_
                   rw [hte,List.all_append,hall.out]
                   simp [isDig,hd1,hd2]
                 have hget:(List.replicate (b.length - k) 0 ++ (dec (b.take k)).reverse)[b.length - 1 - k]? = some 0:=by
                   rw [List.getElem?_append_left (by simp;omega),List.getElem?_replicate,if_pos (by omega)]
                 have hc2:=ha.out.cell' (B8_get hget)
                 have hfr:=ha.out.frozen (b.length - 1 - k)
                 have hst:=ha.out.store (b.length - 1 - k) (.int .u8 ((c - 48:Nat):Int))
                 rw [B8_set,dec_step hc rfl] at hst
                 have ecast:((c - 48:Nat):Int)=(c:Int) - 48:=by omega
                 rw [ecast] at hst
                 have HST:=Lib.hid hst
                 have HX2:=Lib.hid (hx.out.far (p:=⟨g,b.length - 1 - k,none⟩) (by have:=HGS.out;show w.heap.size+1≠g;omega) (.int .u8 ((c:Int) - 48)))
                 have HR2:=Lib.hid (hr.out.far (p:=⟨g,b.length - 1 - k,none⟩) (by have:=HGS.out;show w.heap.size≠g;omega) (.int .u8 ((c:Int) - 48)))
                 have hB2:=hb.setCell (p:=⟨g,b.length - 1 - k,none⟩) (by have:=HGS.out;show w.heap.size≤g;omega) (.int .u8 ((c:Int) - 48))
                 have b1:0≤(b.length:Int) - 1 - k:=by omega
                 have b2:(b.length:Int) - 1 - k<b.length:=by omega
                 have b3:((b.length:Int) - 1 - k).toNat=b.length - 1 - k:=by omega
                 have hk0:(0:Int)≤(k:Int):=by omega
                 have hk1:(k:Int)<b.length:=by omega
                 clear hst ecast hget hc hte hr hx
                 go_wp2
                 go_region
                 go_wp2
                 go_roundw
                 case rel=>exact⟨k+1,by omega,by go_num,HALL,HST,HX2,HR2,hB2.drew⟩
                 case measure=>simp [intOf];omega
               · have HPN : Hid (b.all isDig = false) := by
                   show _=_
                   rw [List.all_eq_false]
                   exact⟨c,List.mem_of_getElem? hc,by simp [isDig];omega⟩
                 clear hc hte hx
                 by_cases hd1:c<48
                 all_goals
                   first | have hd2:¬57<c:=by omega | have hd2:57<c:=by omega
                   go_wp2_with ((with_reducible show wpList _ _ _ (Oper.mk none (Op.store 190 (Operand.tmp 2) (Operand.tmp 58)) _ _ _ _ :: _) _ _);go_loud (refine wpList_sr rfl rfl 190 (.tmp 2) (.tmp 58) rfl (w.heap.size) [.bool false,.slice none 0 0] rfl rfl 190 _ hr.out _ Tryz.sz190 (by first | rfl | simp) (by first | rfl | simp) (by first | rfl | simp [Value.oneCell']) ?_;intro w5 hr5 hg5 hz5))
                   have r0:=hr5.out.cell' (i:=0) rfl
                   have r1:=hr5.out.cell' (i:=1) rfl
                   refine bodyPost_ret (v:=.tuple #[.agg #[.bool false,.slice none 0 0],.bool false]) (by simp [results,Tryz.results141,go_sem,r0,r1]) rfl ?_
                   rw [←HPO.out,HPN.out]
                   exact⟨hb.grown hg5 hb.size (fun k e=>by have:=Option.some.inj e;omega),rfl⟩
             · obtain rfl:k=b.length:=by omega
               have hall':=hall.out
               rw [List.take_length] at hall'
               have HA2:=Lib.hid hall'
               have htd:=ten_dec hall'
               have hrd:=ha.out.rd
               rw [List.take_length,Nat.sub_self,List.replicate_zero,List.nil_append] at hrd
               have hln:Hid (b.length=(dec b).reverse.length):=by show _=_;simp [dec]
               have hrx:=hr.out.far (p:=⟨w.heap.size+1,1,none⟩) (by show w.heap.size≠w.heap.size+1;omega)
               clear hall hall' ha
               go_wp2_with (first | (go_at_call 166;go_loud (refine(trim_any _ _ _ (dec b).reverse _ hln hrd htd (Nat.le_refl _) (by unfold maxLen;omega)).mono ?_;rintro e w' ⟨kk,rfl,hkk,hkn,hrr,rfl⟩)) | ((with_reducible show wpList _ _ _ (Oper.mk none (Op.store 190 (Operand.tmp 2) (Operand.tmp 76)) _ _ _ _ :: _) _ _);go_loud (refine wpList_sr rfl rfl 190 (.tmp 2) (.tmp 76) rfl (w.heap.size) [.bool true,.slice (some ⟨g,0,none⟩) kk b.length] rfl rfl 190 _ (hrx _) _ Tryz.sz190 (by first | rfl | simp) (by first | rfl | simp) (by first | rfl | simp [Value.oneCell']) ?_;intro w5 hr5 hg5 hz5)))
               have r0:=hr5.out.cell' (i:=0) rfl
               have r1:=hr5.out.cell' (i:=1) rfl
               refine bodyPost_ret (v:=.tuple #[.agg #[.bool true,.slice (some ⟨g,0,none⟩) kk b.length],.bool true]) (by simp [results,Tryz.results141,go_sem,r0,r1]) rfl ?_
               rw [←HPO.out,if_pos HA2.out]
               refine⟨(hb.setCell (by show w.heap.size≤w.heap.size+1;omega) _).grown hg5 (by have:=hb.size;simpa using this) (fun k e=>by have:=Option.some.inj e;omega),_,kk,b.length,rfl,hkk,?_,?_,?_,?_⟩
               · have:=hkn;simp [dec] at this;omega
               · have:=hkn;simp [dec] at this;omega
               · refine(hrr.setCell _ ?_).grown hg5 ?_
                 · rintro ad e;obtain rfl:=Option.some.inj e;have:=HGS.out;show g≠w.heap.size+1;omega
                 · rintro ad e;obtain rfl:=Option.some.inj e;intro h;have h2:g=w.heap.size:=Option.some.inj h;have:=HGS.out;omega
               · rintro ad e;obtain rfl:=Option.some.inj e;have:=HGS.out;show w.heap.size≤g;omega)
set_option maxHeartbeats 2000000 in
theorem read_B (b : List Nat) (w : World) (hby : By b) (hv : 1 < b.length) (hv2 : b[0]? ≠ some 45) (hneg : negL (b) = false) (hbody : bodyL (b) = b) :
    Calls Tryz.prog 141 #[.string (mks (b))] w (ReadPost (parseC (b)) w):=by
  obtain⟨c0,hc0⟩:∃c0,b[0]? = some c0:=⟨_,List.getElem?_eq_getElem (by omega)⟩
  have hc0b:=hby.get hc0
  have hg0:=get_mks hc0 hc0b (by rw [size_mks];omega)
  have hg45:((c0:Int) == 45)=false:=by rw [beq_eq_false_iff_ne];intro h;exact hv2 (by rw [hc0,show c0=45 by omega])
  have hb0:((b.length:Int) == 0)=false:=by simp;intro h;subst h;simp at hc0
  have hbp:0<b.length:=by omega
  by_cases hlong:400<b.length
  · first
      | (fail)
      | (have HPC : parseC (b) = none := by unfold parseC; rw [if_pos (by unfold badL; rw [hbody]; omega)]
         rw [HPC]
         clear HPC hneg hbody
         have HC0:=Lib.hid hc0
         clear hc0
         have hlong':(400:Int)<b.length:=by omega
         go_enter Tryz.func141,Tryz.ntmps141
         go_wp2
         refine bodyPost_ret (v:=.tuple #[.agg #[.bool false,.slice none 0 0],.bool false]) (by simp [results,Tryz.results141,go_sem]) rfl ⟨?_,rfl⟩
         exact(by repeat (first | exact Below.refl _ _ | assumption | refine Below.drew ?_ | refine Below.drewN' ?_ _ | refine Below.alloc ?_ (by first | assumption | (simp;done) | (simp;omega) | omega) _ | refine Below.setCell ?_ (by first | assumption | (simp;done) | (simp;omega) | omega) _)))
  · have hlong':¬(400:Int)<b.length:=by omega
    by_cases hzero:c0=48∧1<(b).length
    · first
        | (fail)
        | (obtain ⟨rfl, _⟩ := hzero
           have HPC:parseC (b)=none:=by unfold parseC;rw [if_pos (by unfold badL;rw [hbody];refine .inr (.inr ⟨hc0,?_⟩);first | omega | (simp;omega))]
           rw [HPC]
           clear HPC hneg hbody
           have HC0:=Lib.hid hc0
           clear hc0
           go_enter Tryz.func141,Tryz.ntmps141
           go_wp2
           refine bodyPost_ret (v:=.tuple #[.agg #[.bool false,.slice none 0 0],.bool false]) (by simp [results,Tryz.results141,go_sem]) rfl ⟨?_,rfl⟩
           exact(by repeat (first | exact Below.refl _ _ | assumption | refine Below.drew ?_ | refine Below.drewN' ?_ _ | refine Below.alloc ?_ (by first | assumption | (simp;done) | (simp;omega) | omega) _ | refine Below.setCell ?_ (by first | assumption | (simp;done) | (simp;omega) | omega) _)))
    · have hnb : ¬ badL (b) := by
        unfold badL
        rw [hbody,hc0]
        rintro(h | h | ⟨h,h'⟩)
        · omega
        · omega
        · exact hzero ⟨Option.some.inj h,h'⟩
      have hpc:parseC (b)=if b.all isDig then some (false,val (dec b).reverse) else none:=by unfold parseC;rw [if_neg hnb,hbody,hneg]
      rw [hpc]
      generalize hpo:(if b.all isDig then some (false,val (dec b).reverse) else none)=po
      have HPO:=Lib.hid hpo
      clear hpc hpo hnb hneg hbody
      have HC0:=Lib.hid hc0
      clear hc0
      have h48:(c0=48∧¬1<(b).length)∨((c0:Int) == 48)=false:=by
        by_cases h:c0=48
        · exact .inl ⟨h,fun h'=>hzero ⟨h,h'⟩⟩
        · right;simp;omega
      clear hzero
      obtain⟨HR,HX,HB2,HZ⟩:=two_box w 190 190 [.bool false,.slice none 0 0] [.bool false,.slice none 0 0]
      rcases h48 with⟨rfl,h48⟩ | h48
      all_goals first
        | (exact absurd hv h48)
        | (go_enter Tryz.func141, Tryz.ntmps141
           go_wp2_with (at_make;go_loud (refine wpList_mk rfl _ _ 47 rfl 5 _ _ Tryz.underlying47 Tryz.info5 rfl _ _ _ _ rfl rfl (b.length) (b.length) (by omega) (by omega) (by omega) (by omega) (by unfold maxLen;omega) ?_;intro g w1 hg harr hbl hsz;have q1:=(HX.out.keep hbl).cell' (i:=1) rfl;have f1:=(HX.out.keep hbl).frozen 1))
           have hgs:g=w.heap.size+2:=by have h1:=hg.out;rw [HZ.out] at h1;exact h1
           have HGS:=Lib.hid hgs
           clear hgs
           have HXS:=Lib.hid ((HX.out.keep hbl).store 1 (.slice (some ⟨g,0,none⟩) b.length b.length))
           have HRS:=Lib.hid ((HR.out.keep hbl).far (p:=⟨w.heap.size+1,1,none⟩) (by show w.heap.size≠w.heap.size+1;omega) (.slice (some ⟨g,0,none⟩) b.length b.length))
           have hS1:Hid (Arr (w1.setCell ⟨w.heap.size+1,1,none⟩ (.slice (some ⟨g,0,none⟩) b.length b.length)) g 5 (B8 (List.replicate b.length 0 ++ (dec (b.take 0)).reverse))):=by
             have h:=harr.out.far (p:=⟨w.heap.size+1,1,none⟩) (by have:=HGS.out;show g≠w.heap.size+1;omega) (.slice (some ⟨g,0,none⟩) b.length b.length)
             show Arr _ _ _ _
             have e:B8 (List.replicate b.length 0 ++ (dec (b.take 0)).reverse)=List.replicate b.length (.int .u8 0):=by simp [dec,B8]
             rw [e];exact h
           have hB1:=(HB2.trans (hbl.mono (by rw [HZ.out];omega))).setCell (p:=⟨w.heap.size+1,1,none⟩) (by show w.heap.size≤w.heap.size+1;omega) (.slice (some ⟨g,0,none⟩) b.length b.length)
           clear harr q1 f1 HR HX HB2 hbl hg
           skip
           go_loopw [45] (fun iv wr => ∃ k : Nat, k ≤ b.length ∧ iv = .int .i64 k ∧ Hid ((b.take k).all isDig = true) ∧ Hid (Arr wr g 5 (B8 (List.replicate (b.length - k) 0 ++ (dec (b.take k)).reverse))) ∧
               Hid (Arr wr (w.heap.size+1) 190 [.bool false,.slice (some ⟨g,0,none⟩) b.length b.length])∧Hid (Arr wr w.heap.size 190 [.bool false,.slice none 0 0])∧Below w.heap.size w wr)
             (fun iv _=>b.length - (intOf iv).toNat)
           case atStart=>exact⟨0,by omega,rfl,rfl,hS1,HXS,HRS,hB1⟩
           case round=>
             clear hS1 HXS HRS hB1
             obtain⟨k,hk,rfl,hall,ha,hx,hr,hb⟩:=hrel
             have x0:=hx.out.cell' (i:=0) rfl
             have x1:=hx.out.cell' (i:=1) rfl
             have xf1:=hx.out.frozen 1
             by_cases hlt:k<b.length
             · obtain⟨c,hc⟩:∃c,b[k]? = some c:=⟨_,List.getElem?_eq_getElem hlt⟩
               have hcb:=hby.get hc
               have hgk:=get_mks hc hcb (by rw [size_mks];exact hlt)
               have hte:b.take (k+1)=b.take k ++ [c]:=by
                 have:=List.getElem?_eq_some_iff.1 hc
                 rw [List.take_succ_eq_append_getElem this.1,this.2]
               by_cases hd:48≤c∧c≤57
               · obtain⟨hd1,hd2⟩:=hd
                 have HALL:Hid ((b.take (k+1)).all isDig=true):=by
                   show _=_
                   rw [hte,List.all_append,hall.out]
                   simp [isDig,hd1,hd2]
                 have hget:(List.replicate (b.length - k) 0 ++ (dec (b.take k)).reverse)[b.length - 1 - k]? = some 0:=by
                   rw [List.getElem?_append_left (by simp;omega),List.getElem?_replicate,if_pos (by omega)]
                 have hc2:=ha.out.cell' (B8_get hget)
                 have hfr:=ha.out.frozen (b.length - 1 - k)
                 have hst:=ha.out.store (b.length - 1 - k) (.int .u8 ((c - 48:Nat):Int))
                 rw [B8_set,dec_step hc rfl] at hst
                 have ecast:((c - 48:Nat):Int)=(c:Int) - 48:=by omega
                 rw [ecast] at hst
                 have HST:=Lib.hid hst
                 have HX2:=Lib.hid (hx.out.far (p:=⟨g,b.length - 1 - k,none⟩) (by have:=HGS.out;show w.heap.size+1≠g;omega) (.int .u8 ((c:Int) - 48)))
                 have HR2:=Lib.hid (hr.out.far (p:=⟨g,b.length - 1 - k,none⟩) (by have:=HGS.out;show w.heap.size≠g;omega) (.int .u8 ((c:Int) - 48)))
                 have hB2:=hb.setCell (p:=⟨g,b.length - 1 - k,none⟩) (by have:=HGS.out;show w.heap.size≤g;omega) (.int .u8 ((c:Int) - 48))
                 have b1:0≤(b.length:Int) - 1 - k:=by omega
                 have b2:(b.length:Int) - 1 - k<b.length:=by omega
                 have b3:((b.length:Int) - 1 - k).toNat=b.length - 1 - k:=by omega
                 have hk0:(0:Int)≤(k:Int):=by omega
                 have hk1:(k:Int)<b.length:=by omega
                 clear hst ecast hget hc hte hr hx
                 go_wp2
                 go_region
                 go_wp2
                 go_roundw
                 case rel=>exact⟨k+1,by omega,by go_num,HALL,HST,HX2,HR2,hB2.drew⟩
                 case measure=>simp [intOf];omega
               · have HPN : Hid (b.all isDig = false) := by
                   show _=_
                   rw [List.all_eq_false]
                   exact⟨c,List.mem_of_getElem? hc,by simp [isDig];omega⟩
                 clear hc hte hx
                 by_cases hd1:c<48
                 all_goals
                   first | have hd2:¬57<c:=by omega | have hd2:57<c:=by omega
                   go_wp2_with ((with_reducible show wpList _ _ _ (Oper.mk none (Op.store 190 (Operand.tmp 2) (Operand.tmp 58)) _ _ _ _ :: _) _ _);go_loud (refine wpList_sr rfl rfl 190 (.tmp 2) (.tmp 58) rfl (w.heap.size) [.bool false,.slice none 0 0] rfl rfl 190 _ hr.out _ Tryz.sz190 (by first | rfl | simp) (by first | rfl | simp) (by first | rfl | simp [Value.oneCell']) ?_;intro w5 hr5 hg5 hz5))
                   have r0:=hr5.out.cell' (i:=0) rfl
                   have r1:=hr5.out.cell' (i:=1) rfl
                   refine bodyPost_ret (v:=.tuple #[.agg #[.bool false,.slice none 0 0],.bool false]) (by simp [results,Tryz.results141,go_sem,r0,r1]) rfl ?_
                   rw [←HPO.out,HPN.out]
                   exact⟨hb.grown hg5 hb.size (fun k e=>by have:=Option.some.inj e;omega),rfl⟩
             · obtain rfl:k=b.length:=by omega
               have hall':=hall.out
               rw [List.take_length] at hall'
               have HA2:=Lib.hid hall'
               have htd:=ten_dec hall'
               have hrd:=ha.out.rd
               rw [List.take_length,Nat.sub_self,List.replicate_zero,List.nil_append] at hrd
               have hln:Hid (b.length=(dec b).reverse.length):=by show _=_;simp [dec]
               have hrx:=hr.out.far (p:=⟨w.heap.size+1,1,none⟩) (by show w.heap.size≠w.heap.size+1;omega)
               clear hall hall' ha
               go_wp2_with (first | (go_at_call 166;go_loud (refine(trim_any _ _ _ (dec b).reverse _ hln hrd htd (Nat.le_refl _) (by unfold maxLen;omega)).mono ?_;rintro e w' ⟨kk,rfl,hkk,hkn,hrr,rfl⟩)) | ((with_reducible show wpList _ _ _ (Oper.mk none (Op.store 190 (Operand.tmp 2) (Operand.tmp 76)) _ _ _ _ :: _) _ _);go_loud (refine wpList_sr rfl rfl 190 (.tmp 2) (.tmp 76) rfl (w.heap.size) [.bool false,.slice (some ⟨g,0,none⟩) kk b.length] rfl rfl 190 _ (hrx _) _ Tryz.sz190 (by first | rfl | simp) (by first | rfl | simp) (by first | rfl | simp [Value.oneCell']) ?_;intro w5 hr5 hg5 hz5)))
               have r0:=hr5.out.cell' (i:=0) rfl
               have r1:=hr5.out.cell' (i:=1) rfl
               refine bodyPost_ret (v:=.tuple #[.agg #[.bool false,.slice (some ⟨g,0,none⟩) kk b.length],.bool true]) (by simp [results,Tryz.results141,go_sem,r0,r1]) rfl ?_
               rw [←HPO.out,if_pos HA2.out]
               refine⟨(hb.setCell (by show w.heap.size≤w.heap.size+1;omega) _).grown hg5 (by have:=hb.size;simpa using this) (fun k e=>by have:=Option.some.inj e;omega),_,kk,b.length,rfl,hkk,?_,?_,?_,?_⟩
               · have:=hkn;simp [dec] at this;omega
               · have:=hkn;simp [dec] at this;omega
               · refine(hrr.setCell _ ?_).grown hg5 ?_
                 · rintro ad e;obtain rfl:=Option.some.inj e;have:=HGS.out;show g≠w.heap.size+1;omega
                 · rintro ad e;obtain rfl:=Option.some.inj e;intro h;have h2:g=w.heap.size:=Option.some.inj h;have:=HGS.out;omega
               · rintro ad e;obtain rfl:=Option.some.inj e;have:=HGS.out;show w.heap.size≤g;omega)
set_option maxHeartbeats 2000000 in
theorem read_C (b : List Nat) (w : World) (hby : By b) (hv : b.length ≤ 1) (hv2 : 0 < b.length) (hneg : negL (b) = false) (hbody : bodyL (b) = b) :
    Calls Tryz.prog 141 #[.string (mks (b))] w (ReadPost (parseC (b)) w):=by
  obtain⟨c0,hc0⟩:∃c0,b[0]? = some c0:=⟨_,List.getElem?_eq_getElem (by omega)⟩
  have hc0b:=hby.get hc0
  have hg0:=get_mks hc0 hc0b (by rw [size_mks];omega)
  have hv':¬1<b.length:=by omega
  have hb0:((b.length:Int) == 0)=false:=by simp;intro h;subst h;simp at hc0
  have hbp:0<b.length:=by omega
  by_cases hlong:400<b.length
  · first
      | ((exfalso;omega))
      | (have HPC : parseC (b) = none := by unfold parseC; rw [if_pos (by unfold badL; rw [hbody]; omega)]
         rw [HPC]
         clear HPC hneg hbody
         have HC0:=Lib.hid hc0
         clear hc0
         have hlong':(400:Int)<b.length:=by omega
         go_enter Tryz.func141,Tryz.ntmps141
         go_wp2
         refine bodyPost_ret (v:=.tuple #[.agg #[.bool false,.slice none 0 0],.bool false]) (by simp [results,Tryz.results141,go_sem]) rfl ⟨?_,rfl⟩
         exact(by repeat (first | exact Below.refl _ _ | assumption | refine Below.drew ?_ | refine Below.drewN' ?_ _ | refine Below.alloc ?_ (by first | assumption | (simp;done) | (simp;omega) | omega) _ | refine Below.setCell ?_ (by first | assumption | (simp;done) | (simp;omega) | omega) _)))
  · have hlong':¬(400:Int)<b.length:=by omega
    by_cases hzero:c0=48∧1<(b).length
    · first
        | (exact absurd hzero.2 (by omega))
        | (obtain ⟨rfl, _⟩ := hzero
           have HPC:parseC (b)=none:=by unfold parseC;rw [if_pos (by unfold badL;rw [hbody];refine .inr (.inr ⟨hc0,?_⟩);first | omega | (simp;omega))]
           rw [HPC]
           clear HPC hneg hbody
           have HC0:=Lib.hid hc0
           clear hc0
           go_enter Tryz.func141,Tryz.ntmps141
           go_wp2
           refine bodyPost_ret (v:=.tuple #[.agg #[.bool false,.slice none 0 0],.bool false]) (by simp [results,Tryz.results141,go_sem]) rfl ⟨?_,rfl⟩
           exact(by repeat (first | exact Below.refl _ _ | assumption | refine Below.drew ?_ | refine Below.drewN' ?_ _ | refine Below.alloc ?_ (by first | assumption | (simp;done) | (simp;omega) | omega) _ | refine Below.setCell ?_ (by first | assumption | (simp;done) | (simp;omega) | omega) _)))
    · have hnb : ¬ badL (b) := by
        unfold badL
        rw [hbody,hc0]
        rintro(h | h | ⟨h,h'⟩)
        · omega
        · omega
        · exact hzero ⟨Option.some.inj h,h'⟩
      have hpc:parseC (b)=if b.all isDig then some (false,val (dec b).reverse) else none:=by unfold parseC;rw [if_neg hnb,hbody,hneg]
      rw [hpc]
      generalize hpo:(if b.all isDig then some (false,val (dec b).reverse) else none)=po
      have HPO:=Lib.hid hpo
      clear hpc hpo hnb hneg hbody
      have HC0:=Lib.hid hc0
      clear hc0
      have h48:(c0=48∧¬1<(b).length)∨((c0:Int) == 48)=false:=by
        by_cases h:c0=48
        · exact .inl ⟨h,fun h'=>hzero ⟨h,h'⟩⟩
        · right;simp;omega
      clear hzero
      obtain⟨HR,HX,HB2,HZ⟩:=two_box w 190 190 [.bool false,.slice none 0 0] [.bool false,.slice none 0 0]
      rcases h48 with⟨rfl,h48⟩ | h48
      all_goals first
        | (fail)
        | (go_enter Tryz.func141, Tryz.ntmps141
           go_wp2_with (at_make;go_loud (refine wpList_mk rfl _ _ 47 rfl 5 _ _ Tryz.underlying47 Tryz.info5 rfl _ _ _ _ rfl rfl (b.length) (b.length) (by omega) (by omega) (by omega) (by omega) (by unfold maxLen;omega) ?_;intro g w1 hg harr hbl hsz;have q1:=(HX.out.keep hbl).cell' (i:=1) rfl;have f1:=(HX.out.keep hbl).frozen 1))
           have hgs:g=w.heap.size+2:=by have h1:=hg.out;rw [HZ.out] at h1;exact h1
           have HGS:=Lib.hid hgs
           clear hgs
           have HXS:=Lib.hid ((HX.out.keep hbl).store 1 (.slice (some ⟨g,0,none⟩) b.length b.length))
           have HRS:=Lib.hid ((HR.out.keep hbl).far (p:=⟨w.heap.size+1,1,none⟩) (by show w.heap.size≠w.heap.size+1;omega) (.slice (some ⟨g,0,none⟩) b.length b.length))
           have hS1:Hid (Arr (w1.setCell ⟨w.heap.size+1,1,none⟩ (.slice (some ⟨g,0,none⟩) b.length b.length)) g 5 (B8 (List.replicate b.length 0 ++ (dec (b.take 0)).reverse))):=by
             have h:=harr.out.far (p:=⟨w.heap.size+1,1,none⟩) (by have:=HGS.out;show g≠w.heap.size+1;omega) (.slice (some ⟨g,0,none⟩) b.length b.length)
             show Arr _ _ _ _
             have e:B8 (List.replicate b.length 0 ++ (dec (b.take 0)).reverse)=List.replicate b.length (.int .u8 0):=by simp [dec,B8]
             rw [e];exact h
           have hB1:=(HB2.trans (hbl.mono (by rw [HZ.out];omega))).setCell (p:=⟨w.heap.size+1,1,none⟩) (by show w.heap.size≤w.heap.size+1;omega) (.slice (some ⟨g,0,none⟩) b.length b.length)
           clear harr q1 f1 HR HX HB2 hbl hg
           clear hv hv'
           go_loopw [45] (fun iv wr => ∃ k : Nat, k ≤ b.length ∧ iv = .int .i64 k ∧ Hid ((b.take k).all isDig = true) ∧ Hid (Arr wr g 5 (B8 (List.replicate (b.length - k) 0 ++ (dec (b.take k)).reverse))) ∧
               Hid (Arr wr (w.heap.size+1) 190 [.bool false,.slice (some ⟨g,0,none⟩) b.length b.length])∧Hid (Arr wr w.heap.size 190 [.bool false,.slice none 0 0])∧Below w.heap.size w wr)
             (fun iv _=>b.length - (intOf iv).toNat)
           case atStart=>exact⟨0,by omega,rfl,rfl,hS1,HXS,HRS,hB1⟩
           case round=>
             clear hS1 HXS HRS hB1
             obtain⟨k,hk,rfl,hall,ha,hx,hr,hb⟩:=hrel
             have x0:=hx.out.cell' (i:=0) rfl
             have x1:=hx.out.cell' (i:=1) rfl
             have xf1:=hx.out.frozen 1
             by_cases hlt:k<b.length
             · obtain⟨c,hc⟩:∃c,b[k]? = some c:=⟨_,List.getElem?_eq_getElem hlt⟩
               have hcb:=hby.get hc
               have hgk:=get_mks hc hcb (by rw [size_mks];exact hlt)
               have hte:b.take (k+1)=b.take k ++ [c]:=by
                 have:=List.getElem?_eq_some_iff.1 hc
                 rw [List.take_succ_eq_append_getElem this.1,this.2]
               by_cases hd:48≤c∧c≤57
               · obtain⟨hd1,hd2⟩:=hd
                 have HALL:Hid ((b.take (k+1)).all isDig=true):=by
                   show _=_
                   rw [hte,List.all_append,hall.out]
                   simp [isDig,hd1,hd2]
                 have hget:(List.replicate (b.length - k) 0 ++ (dec (b.take k)).reverse)[b.length - 1 - k]? = some 0:=by
                   rw [List.getElem?_append_left (by simp;omega),List.getElem?_replicate,if_pos (by omega)]
                 have hc2:=ha.out.cell' (B8_get hget)
                 have hfr:=ha.out.frozen (b.length - 1 - k)
                 have hst:=ha.out.store (b.length - 1 - k) (.int .u8 ((c - 48:Nat):Int))
                 rw [B8_set,dec_step hc rfl] at hst
                 have ecast:((c - 48:Nat):Int)=(c:Int) - 48:=by omega
                 rw [ecast] at hst
                 have HST:=Lib.hid hst
                 have HX2:=Lib.hid (hx.out.far (p:=⟨g,b.length - 1 - k,none⟩) (by have:=HGS.out;show w.heap.size+1≠g;omega) (.int .u8 ((c:Int) - 48)))
                 have HR2:=Lib.hid (hr.out.far (p:=⟨g,b.length - 1 - k,none⟩) (by have:=HGS.out;show w.heap.size≠g;omega) (.int .u8 ((c:Int) - 48)))
                 have hB2:=hb.setCell (p:=⟨g,b.length - 1 - k,none⟩) (by have:=HGS.out;show w.heap.size≤g;omega) (.int .u8 ((c:Int) - 48))
                 have b1:0≤(b.length:Int) - 1 - k:=by omega
                 have b2:(b.length:Int) - 1 - k<b.length:=by omega
                 have b3:((b.length:Int) - 1 - k).toNat=b.length - 1 - k:=by omega
                 have hk0:(0:Int)≤(k:Int):=by omega
                 have hk1:(k:Int)<b.length:=by omega
                 clear hst ecast hget hc hte hr hx
                 go_wp2
                 go_region
                 go_wp2
                 go_roundw
                 case rel=>exact⟨k+1,by omega,by go_num,HALL,HST,HX2,HR2,hB2.drew⟩
                 case measure=>simp [intOf];omega
               · have HPN : Hid (b.all isDig = false) := by
                   show _=_
                   rw [List.all_eq_false]
                   exact⟨c,List.mem_of_getElem? hc,by simp [isDig];omega⟩
                 clear hc hte hx
                 by_cases hd1:c<48
                 all_goals
                   first | have hd2:¬57<c:=by omega | have hd2:57<c:=by omega
                   go_wp2_with ((with_reducible show wpList _ _ _ (Oper.mk none (Op.store 190 (Operand.tmp 2) (Operand.tmp 58)) _ _ _ _ :: _) _ _);go_loud (refine wpList_sr rfl rfl 190 (.tmp 2) (.tmp 58) rfl (w.heap.size) [.bool false,.slice none 0 0] rfl rfl 190 _ hr.out _ Tryz.sz190 (by first | rfl | simp) (by first | rfl | simp) (by first | rfl | simp [Value.oneCell']) ?_;intro w5 hr5 hg5 hz5))
                   have r0:=hr5.out.cell' (i:=0) rfl
                   have r1:=hr5.out.cell' (i:=1) rfl
                   refine bodyPost_ret (v:=.tuple #[.agg #[.bool false,.slice none 0 0],.bool false]) (by simp [results,Tryz.results141,go_sem,r0,r1]) rfl ?_
                   rw [←HPO.out,HPN.out]
                   exact⟨hb.grown hg5 hb.size (fun k e=>by have:=Option.some.inj e;omega),rfl⟩
             · obtain rfl:k=b.length:=by omega
               have hall':=hall.out
               rw [List.take_length] at hall'
               have HA2:=Lib.hid hall'
               have htd:=ten_dec hall'
               have hrd:=ha.out.rd
               rw [List.take_length,Nat.sub_self,List.replicate_zero,List.nil_append] at hrd
               have hln:Hid (b.length=(dec b).reverse.length):=by show _=_;simp [dec]
               have hrx:=hr.out.far (p:=⟨w.heap.size+1,1,none⟩) (by show w.heap.size≠w.heap.size+1;omega)
               clear hall hall' ha
               go_wp2_with (first | (go_at_call 166;go_loud (refine(trim_any _ _ _ (dec b).reverse _ hln hrd htd (Nat.le_refl _) (by unfold maxLen;omega)).mono ?_;rintro e w' ⟨kk,rfl,hkk,hkn,hrr,rfl⟩)) | ((with_reducible show wpList _ _ _ (Oper.mk none (Op.store 190 (Operand.tmp 2) (Operand.tmp 76)) _ _ _ _ :: _) _ _);go_loud (refine wpList_sr rfl rfl 190 (.tmp 2) (.tmp 76) rfl (w.heap.size) [.bool false,.slice (some ⟨g,0,none⟩) kk b.length] rfl rfl 190 _ (hrx _) _ Tryz.sz190 (by first | rfl | simp) (by first | rfl | simp) (by first | rfl | simp [Value.oneCell']) ?_;intro w5 hr5 hg5 hz5)))
               have r0:=hr5.out.cell' (i:=0) rfl
               have r1:=hr5.out.cell' (i:=1) rfl
               refine bodyPost_ret (v:=.tuple #[.agg #[.bool false,.slice (some ⟨g,0,none⟩) kk b.length],.bool true]) (by simp [results,Tryz.results141,go_sem,r0,r1]) rfl ?_
               rw [←HPO.out,if_pos HA2.out]
               refine⟨(hb.setCell (by show w.heap.size≤w.heap.size+1;omega) _).grown hg5 (by have:=hb.size;simpa using this) (fun k e=>by have:=Option.some.inj e;omega),_,kk,b.length,rfl,hkk,?_,?_,?_,?_⟩
               · have:=hkn;simp [dec] at this;omega
               · have:=hkn;simp [dec] at this;omega
               · refine(hrr.setCell _ ?_).grown hg5 ?_
                 · rintro ad e;obtain rfl:=Option.some.inj e;have:=HGS.out;show g≠w.heap.size+1;omega
                 · rintro ad e;obtain rfl:=Option.some.inj e;intro h;have h2:g=w.heap.size:=Option.some.inj h;have:=HGS.out;omega
               · rintro ad e;obtain rfl:=Option.some.inj e;have:=HGS.out;show w.heap.size≤g;omega)
set_option maxHeartbeats 1000000 in
theorem read_nil (w:World):Calls Tryz.prog 141 #[.string (mks [])] w (ReadPost (parseC []) w):=by
  have HPC:parseC []=none:=rfl
  rw [HPC]
  go_enter Tryz.func141,Tryz.ntmps141
  go_wp2
  refine bodyPost_ret (v:=.tuple #[.agg #[.bool false,.slice none 0 0],.bool false]) (by simp [results,Tryz.results141,go_sem]) rfl ⟨?_,rfl⟩
  exact(by repeat (first | exact Below.refl _ _ | assumption | refine Below.drew ?_ | refine Below.drewN' ?_ _ | refine Below.alloc ?_ (by first | assumption | (simp;done) | (simp;omega) | omega) _ | refine Below.setCell ?_ (by first | assumption | (simp;done) | (simp;omega) | omega) _))
theorem read_any (l:List Nat) (w:World) (hby:By l):Calls Tryz.prog 141 #[.string (mks l)] w (ReadPost (parseC l) w):=by
  by_cases h1:1<l.length
  · by_cases h2:l[0]? = some 45
    · match l,hby,h1,h2 with
      | c :: b,hby,h1,h2=>
        obtain rfl:c=45:=by simpa using h2
        have hneg:negL (45 :: b)=true:=by unfold negL;exact decide_eq_true ⟨h1,rfl⟩
        exact read_A b w hby.tail (by simp at h1;exact h1) hneg (by unfold bodyL;rw [hneg];rfl)
    · have hneg:negL l=false:=by unfold negL;exact decide_eq_false (fun h=>h2 h.2)
      exact read_B l w hby h1 h2 hneg (by unfold bodyL;rw [hneg];rfl)
  · by_cases h0:l = []
    · subst h0;exact read_nil w
    · have hl:0<l.length:=List.length_pos_iff.2 h0
      have hneg:negL l=false:=by unfold negL;exact decide_eq_false (fun h=>h1 h.1)
      exact read_C l w hby (by omega) hl hneg (by unfold bodyL;rw [hneg];rfl)
end Go.Proofs.YtnnnagnjikdnnaaGreatDoor
