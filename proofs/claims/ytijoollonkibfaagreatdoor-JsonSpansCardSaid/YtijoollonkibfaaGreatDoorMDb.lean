/- The walk of numeral of decimal: heads with a fraction. -/
import Derived.Test.YtijoollonkibfaaGreatDoorMDa
namespace Go.Proofs.YtijoollonkibfaaGreatDoor
open Go.RowKit
theorem own_all {w:World} {g n base:Nat} {t:TypeId} {xs:List Value} (h:Arr w g t xs) (hb:base≤g) (hn:n=xs.length) (hm:n≤maxLen):w.ownsRow base t 1 (.slice (some ⟨g,0,none⟩) n n) n xs:=by
 have h2:=arr_own h hb (Nat.le_refl n) hn hm
 rwa [List.take_of_length_le (by omega)] at h2
set_option maxRecDepth 8000 in
set_option maxHeartbeats 8000000 in
theorem numeral_FN (b:List Nat) (w:World) (hb:By b) (hl:b.length<4294967295)  (hn0:runL b≠0) (hn1:¬(1<runL b∧b[0]? = some 48)) (f:List Nat) (hf:b.drop (runL b)=46 :: f) :
  Calls Tryz.prog 76 #[.string (mks (45 :: b))] w (NumO w (bodyV true b)):=by
 have hS:By (45 :: b):=by first | exact hb | exact By.cons (by omega) hb
 have D1:=prefix_lit (45 :: b) 45 45 rfl hS
 have D2:=run_h b hb (by omega)
 have P1:hasP [45] (45 :: b)=true:=hasP_cons 45 b
 have hrl:=runL_le b
 have hxa:=runL_all b
 have hv1:bodyV true b=if runL f=0 then none else (match expV (f.drop (runL f)) with | none=>none | some k=>some (normV true (dec (b.take (runL b)) ++ dec (f.take (runL f))) (-((runL f:Nat):Int)+k))):=by
  unfold bodyV
  rw [if_neg (fun h=>h.elim hn0 hn1),hf]
  unfold fracV
  rw [if_pos (hasP_cons 46 f)]
  by_cases h0:runL f=0
  ·simp [h0]
  ·simp [h0]
   rfl
 generalize hv:bodyV true b=v at *
 clear hv
 have HX:=Lib.hid (Arr.new w 126 [.bool false,.slice none 0 0,.int .i64 0])
 have HBd:Below w.heap.size w (w.alloc (.cells #[.bool false,.slice none 0 0,.int .i64 0] 126)):=(Below.refl _ _).alloc (Nat.le_refl _) _
 have hp:0<(mks b).size:=by rw [size_mks];omega
 have h48:((1:Int)<((runL b:Nat):Int)∧∃c:Nat,((mks b)[0]'hp).toNat=c∧((c:Int) == 48)=false)∨¬(1:Int)<((runL b:Nat):Int):=by
  by_cases h1:1<runL b
  ·obtain⟨c,hc⟩:∃c,b[0]? = some c:=⟨_,List.getElem?_eq_getElem (by omega)⟩
   refine .inl ⟨by omega,c,get_mks hc (hb.get hc) _,?_⟩
   rw [beq_eq_false_iff_ne]
   intro h
   exact hn1 ⟨h1,by rw [hc,show c=48 by omega]⟩
  ·exact .inr (by omega)
 obtain⟨x,hx⟩:∃x,b.take (runL b)=x:=⟨_,rfl⟩
 have hxl:x.length=runL b:=by rw [←hx,List.length_take];omega
 have hfb:By (46 :: f):=by rw [←hf];exact hb.drop _
 have hfl:f.length+1<4294967295:=by have h:=congrArg List.length hf;rw [List.length_drop,List.length_cons] at h;omega
 rw [hx] at hxa hv1
 have hmf:=runL_le f
 have hya:=runL_all f
 obtain⟨y,hy⟩:∃y,f.take (runL f)=y:=⟨_,rfl⟩
 obtain⟨r,hr⟩:∃r,f.drop (runL f)=r:=⟨_,rfl⟩
 have hyl:y.length=runL f:=by rw [←hy,List.length_take];omega
 have hrb:By r:=by rw [←hr];exact hfb.tail.drop _
 have hrl2:r.length<4294967295:=by rw [←hr,List.length_drop];omega
 rw [hy] at hya hv1
 rw [hr] at hv1
 have D5:=run_h f hfb.tail (by omega)
 have D5b:=bytes_h y _ hya hyl (by omega)
 have P46:hasP [46] (46 :: f)=true:=hasP_cons 46 f
 have D3:=bytes_h x _ hxa hxl (by omega)
 have D4:=prefix_lit (46 :: f) 46 46 rfl hfb
 have HV:=Lib.hid hv1
 have hn00:¬((runL b:Nat):Int)=0:=by omega
 have hnl:((runL b:Nat):Int)≤b.length:=by omega
 have hnn:(0:Int)≤((runL b:Nat):Int):=by omega
 generalize runL b=n at *
 have hmm:(0:Int)≤((runL f:Nat):Int):=by omega
 have hml:((runL f:Nat):Int)≤f.length:=by omega
 have hm0:runL f=0∨(¬runL f=0∧(((runL f:Nat):Int) == 0)=false):=by
  by_cases h:runL f=0
  ·exact .inl h
  ·exact .inr ⟨h,by simp;omega⟩
 generalize runL f=m at *
 clear hv1 hn1 hxa
 have HXL:=Lib.hid hxl
 have HYL:=Lib.hid hyl
 clear hxl hyl hya
 go_enter Tryz.func76,Tryz.ntmps76
 go_upto_region 1 with(fail)
 have hlow:w.heap.size<(w.alloc (.cells #[.bool false,.slice none 0 0,.int .i64 0] 126)).heap.size:=HX.out.lt
 generalize (w.alloc (.cells #[.bool false,.slice none 0 0,.int .i64 0] 126))=W at *
 rcases h48 with⟨h1,c0,h48,h48'⟩ | h1
 all_goals
  rcases hm0 with rfl | ⟨hm0,hm0'⟩
  ·have HV0:v=none:=by have h:=HV.out;rw [if_pos rfl] at h;exact h
   subst HV0
   clear hr hy
   go_wp2_with (first | (go_at_call 46;(first | (with_reducible refine(D1.out _).mono ?_) | (with_reducible refine(D4.out _).mono ?_));rintro e w6 ⟨rfl,rfl⟩) | (go_at_call 100;(first | (with_reducible refine(D2.out _).mono ?_) | (with_reducible refine(D5.out _).mono ?_));rintro e w6 ⟨rfl,rfl⟩) | (go_at_call 101;((with_reducible refine(D3.out _).mono ?_));rintro e w6 ⟨g,rfl,hg,harr,hbl⟩) | ((with_reducible show wpList _ _ _ (Oper.mk none (Op.store 126 (Operand.tmp 2) (Operand.tmp 43)) _ _ _ _ :: _) _ _);go_loud (refine wpList_sr rfl rfl 126 (.tmp 2) (.tmp 43) rfl (w.heap.size) [.bool false,.slice none 0 0,.int .i64 0] rfl rfl 126 _ (HX.out.keep hbl) _ Tryz.sz126 (by first | rfl | simp) (by first | rfl | simp) (by first | rfl | simp [Value.oneCell']) ?_;intro w5 hr5 hg5 hz5)))
   have r0:=hr5.out.cell' (i:=0) rfl
   have r1:=hr5.out.cell' (i:=1) rfl
   have r2:=hr5.out.cell' (i:=2) rfl
   refine bodyPost_ret (v:=.tuple #[.agg #[.bool false,.slice none 0 0,.int .i64 0],.bool false]) (by simp [results,Tryz.results76,go_sem,r0,r1,r2]) rfl ?_
   exact⟨(HBd.trans (hbl.mono (by omega))).grown hg5 (by have:=hbl.size;omega) (fun k e=>by have:=Option.some.inj e;omega),rfl⟩
  ·have HV1:=HV.out
   rw [if_neg hm0] at HV1
   clear HV
   have HV:=Lib.hid HV1
   clear HV1
   have hxd:(B8 (dec x)).length=n:=by have:=HXL.out;simp [length_B8,dec];omega
   have hyd:(B8 (dec y)).length=m:=by have:=HYL.out;simp [length_B8,dec];omega
   go_upto_region 17 with(first | (go_at_call 46;(first | (with_reducible refine(D1.out _).mono ?_) | (with_reducible refine(D4.out _).mono ?_));rintro e w6 ⟨rfl,rfl⟩) | (go_at_call 100;(first | (with_reducible refine(D2.out _).mono ?_) | (with_reducible refine(D5.out _).mono ?_));rintro e w6 ⟨rfl,rfl⟩) | (go_at_call 101;((with_reducible refine(D3.out _).mono ?_));rintro e w6 ⟨g,rfl,hg,harr,hbl⟩) | (go_at_call 101;((with_reducible refine(D5b.out _).mono ?_));rintro e w8 ⟨g8,rfl,hg8,harr8,hbl8⟩) | (at_builtin;go_loud (refine wpList_apl rfl (.tmp 44) (.tmp 49) 108 rfl W.heap.size 5 _ _ Tryz.underlying108 Tryz.info5 rfl _ n (B8 (dec x)) rfl (own_all (harr.out.keep hbl8) (by have:=hg.out;omega) hxd.symm (by unfold maxLen;omega)) (some ⟨g8,0,none⟩) m m (B8 (dec y)) rfl harr8.out.rd hyd (by simp) (B8_one _) (by unfold maxLen;omega) (by omega) (by have:=hbl.size;have:=hbl8.size;omega) ?_;intro v' w7 hown9 hgr9;obtain⟨A9,c9,rfl,hl9,hc9,hm9,hrd9,hf9,_⟩:=own_rd2 hown9;obtain⟨A,rfl⟩:=hrd9.some_ (by intro h;have:=congrArg List.length h;rw [List.length_append,hxd,List.length_nil] at this;omega))))
   have hlgm:=hg.out
   have hnm:n+m≤4294967296:=by have h:=congrArg List.length hf;rw [List.length_drop,List.length_cons] at h;omega
   have hlenD:Hid (n+m=(dec x ++ dec y).length):=by show _=_;have:=HXL.out;have:=HYL.out;simp [dec];omega
   have HRD:Hid (Rd w7 (some A) (B8 (dec x ++ dec y))):=by rw [B8_append];exact hrd9
   have HX7:Hid (Arr w7 w.heap.size 126 [.bool false,.slice none 0 0,.int .i64 0]):=((HX.out.keep hbl).keep hbl8).grown hgr9 (by intro e;have h:w.heap.size=g:=Option.some.inj e;omega)
   have HB7:Below w.heap.size w w7:=((HBd.trans (hbl.mono (by omega))).trans (hbl8.mono (by have:=hbl.size;omega))).grown hgr9 (by have:=hbl.size;have:=hbl8.size;omega) (fun k e=>by have h:g=k:=Option.some.inj e;omega)
   have hcc:=hc9
   have hcm:=hm9
   generalize dec x ++ dec y=D at *
   clear HX HBd harr hbl harr8 hbl8 hgr9 hown9 hrd9 hf9 hl9 D1 D2 D3 D4 D5 D5b P1 P46
   try clear h48 h48'
   clear hp
   rcases exp_cases r with⟨rfl,he⟩ | ⟨c,t,rfl,hc1,hc2,he⟩ | ⟨c,t,u,mi,pl,rfl,hc,hmi,hpl,htu,hu⟩
   ·obtain⟨z,hz⟩:∃z,Hid (normV true D (-((m:Nat):Int)+0)=z):=⟨_,rfl⟩
    go_wp2_with (first | (go_at_call 103;go_loud (refine(norm_z true A _ _ D _ _ _ _ hz.out (by omega) hlenD HRD.out hcc (by omega) hcm (by omega) (by omega)).mono ?_;rintro e w8 ⟨A8,n8,c8,rfl,hn8,hc8,hr8,hf8,hb8⟩)) | ((with_reducible show wpList _ _ _ (Oper.mk none (Op.store 126 (Operand.tmp 2) (Operand.tmp 100)) _ _ _ _ :: _) _ _);go_loud (refine wpList_sr rfl rfl 126 (.tmp 2) (.tmp 100) rfl (w.heap.size) [.bool z.1,.slice A8 n8 c8,.int .i64 z.2.2] rfl rfl 126 _ (HX7.out.keep hb8) _ Tryz.sz126 (by first | rfl | simp) (by first | rfl | simp) (by first | rfl | simp [Value.oneCell']) ?_;intro w5 hr5 hg5 hz5)))
    have r0:=hr5.out.cell' (i:=0) rfl
    have r1:=hr5.out.cell' (i:=1) rfl
    have r2:=hr5.out.cell' (i:=2) rfl
    refine bodyPost_ret (v:=.tuple #[.agg #[.bool z.1,.slice A8 n8 c8,.int .i64 z.2.2],.bool true]) (by simp [results,Tryz.results76,go_sem,r0,r1,r2]) rfl ?_
    rw [HV.out,he]
    show NumO w (some (normV _ _ _)) _ _
    rw [hz.out]
    have hl7:=HX7.out.lt
    refine⟨(HB7.trans (hb8.mono HB7.size)).grown hg5 (Nat.le_trans HB7.size hb8.size) (fun k e=>by have:=Option.some.inj e;omega),A8,n8,c8,rfl,hn8,hc8,hr8.grown hg5 ?_,?_⟩
    ·rintro ad e he';have h1:=hf8 ad e;have:=Option.some.inj he';omega
    ·rintro ad e;exact Nat.le_trans HB7.size (hf8 ad e)
   ·have hgc:=get_mks (l:=c :: t) (i:=0) (c:=c) rfl hrb.head (by rw [size_mks];simp)
    have hc1':((c:Int) != 101)=true:=by simp;omega
    have hc2':((c:Int) != 69)=true:=by simp;omega
    go_wp2_with ((with_reducible show wpList _ _ _ (Oper.mk none (Op.store 126 (Operand.tmp 2) (Operand.tmp 67)) _ _ _ _ :: _) _ _);go_loud (refine wpList_sr rfl rfl 126 (.tmp 2) (.tmp 67) rfl (w.heap.size) [.bool false,.slice none 0 0,.int .i64 0] rfl rfl 126 _ HX7.out _ Tryz.sz126 (by first | rfl | simp) (by first | rfl | simp) (by first | rfl | simp [Value.oneCell']) ?_;intro w5 hr5 hg5 hz5))
    have r0:=hr5.out.cell' (i:=0) rfl
    have r1:=hr5.out.cell' (i:=1) rfl
    have r2:=hr5.out.cell' (i:=2) rfl
    refine bodyPost_ret (v:=.tuple #[.agg #[.bool false,.slice none 0 0,.int .i64 0],.bool false]) (by simp [results,Tryz.results76,go_sem,r0,r1,r2]) rfl ?_
    rw [HV.out,he]
    exact⟨HB7.grown hg5 HB7.size (fun k e=>by have:=Option.some.inj e;omega),rfl⟩
   ·have hgc:=get_mks (l:=c :: t) (i:=0) (c:=c) rfl hrb.head (by rw [size_mks];simp)
    have D6:=prefix_lit t 45 45 rfl hrb.tail
    have D7:=prefix_lit t 43 43 rfl hrb.tail
    have hub:By u:=by rcases htu with⟨_,rfl⟩ | ⟨_,_,rfl⟩ | ⟨_,_,rfl⟩ <;> first | exact hrb.tail.tail | exact hrb.tail
    have hul:u.length<4294967295:=by rcases htu with⟨_,rfl⟩ | ⟨_,_,rfl⟩ | ⟨_,_,rfl⟩ <;> simp at hrl2 ⊢ <;> omega
    have D8:=run_h u hub (by omega)
    have hcc':((c:Int) != 101)=false∨(((c:Int) != 101)=true∧((c:Int) != 69)=false):=by rcases hc with rfl | rfl <;> simp
    clear hc
    rcases hu with⟨hu,he⟩ | ⟨hu,hru,he⟩ | ⟨hu,hru,he⟩
    ·have hE45:hasP [45] []=false:=rfl
     have hE43:hasP [43] []=false:=rfl
     rcases hcc' with hq | ⟨hq1,hq⟩
     all_goals
      rcases htu with⟨rfl,rfl⟩ | ⟨rfl,rfl,rfl⟩ | ⟨rfl,rfl,rfl⟩
      all_goals
       subst hu
       go_wp2_with (first | (go_at_call 46;(first | (with_reducible refine(D6.out _).mono ?_) | (with_reducible refine(D7.out _).mono ?_) | (with_reducible refine(prefix_e 45 45 rfl _).mono ?_) | (with_reducible refine(prefix_e 43 43 rfl _).mono ?_));rintro e w8 ⟨rfl,rfl⟩) | ((with_reducible show wpList _ _ _ (Oper.mk none (Op.store 126 (Operand.tmp 2) (Operand.tmp 88)) _ _ _ _ :: _) _ _);go_loud (refine wpList_sr rfl rfl 126 (.tmp 2) (.tmp 88) rfl (w.heap.size) [.bool false,.slice none 0 0,.int .i64 0] rfl rfl 126 _ HX7.out _ Tryz.sz126 (by first | rfl | simp) (by first | rfl | simp) (by first | rfl | simp [Value.oneCell']) ?_;intro w5 hr5 hg5 hz5)))
       have r0:=hr5.out.cell' (i:=0) rfl
       have r1:=hr5.out.cell' (i:=1) rfl
       have r2:=hr5.out.cell' (i:=2) rfl
       refine bodyPost_ret (v:=.tuple #[.agg #[.bool false,.slice none 0 0,.int .i64 0],.bool false]) (by simp [results,Tryz.results76,go_sem,r0,r1,r2]) rfl ?_
       rw [HV.out,he]
       exact⟨HB7.grown hg5 HB7.size (fun k e=>by have:=Option.some.inj e;omega),rfl⟩
    ·have hie:u.isEmpty=false:=by cases u <;> simp_all
     have hru':(((runL u:Nat):Int) != ((u.length:Nat):Int))=true:=by simp;omega
     rcases hcc' with hq | ⟨hq1,hq⟩
     all_goals
      rcases htu with⟨rfl,rfl⟩ | ⟨rfl,rfl,rfl⟩ | ⟨rfl,rfl,rfl⟩
      all_goals
       go_wp2_with (first | (go_at_call 46;(first | (with_reducible refine(D6.out _).mono ?_) | (with_reducible refine(D7.out _).mono ?_) | (with_reducible refine(prefix_e 45 45 rfl _).mono ?_) | (with_reducible refine(prefix_e 43 43 rfl _).mono ?_));rintro e w8 ⟨rfl,rfl⟩) | (go_at_call 100;((with_reducible refine(D8.out _).mono ?_));rintro e w8 ⟨rfl,rfl⟩) | ((with_reducible show wpList _ _ _ (Oper.mk none (Op.store 126 (Operand.tmp 2) (Operand.tmp 88)) _ _ _ _ :: _) _ _);go_loud (refine wpList_sr rfl rfl 126 (.tmp 2) (.tmp 88) rfl (w.heap.size) [.bool false,.slice none 0 0,.int .i64 0] rfl rfl 126 _ HX7.out _ Tryz.sz126 (by first | rfl | simp) (by first | rfl | simp) (by first | rfl | simp [Value.oneCell']) ?_;intro w5 hr5 hg5 hz5)))
       have r0:=hr5.out.cell' (i:=0) rfl
       have r1:=hr5.out.cell' (i:=1) rfl
       have r2:=hr5.out.cell' (i:=2) rfl
       refine bodyPost_ret (v:=.tuple #[.agg #[.bool false,.slice none 0 0,.int .i64 0],.bool false]) (by simp [results,Tryz.results76,go_sem,r0,r1,r2]) rfl ?_
       rw [HV.out,he]
       exact⟨HB7.grown hg5 HB7.size (fun k e=>by have:=Option.some.inj e;omega),rfl⟩
    ·have hie:u.isEmpty=false:=by cases u <;> simp_all
     have hru':(((runL u:Nat):Int) != ((u.length:Nat):Int))=false:=by simp;omega
     have D9:=small_h u (allD_of_run hru) (by omega)
     have hk9:=smallV_le u 0 (by omega)
     generalize smallV u 0=kk at *
     obtain⟨z,hz⟩:∃z,Hid (normV true D (-((m:Nat):Int)+(if mi then -((kk:Nat):Int) else ((kk:Nat):Int)))=z):=⟨_,rfl⟩
     rcases hcc' with hq | ⟨hq1,hq⟩
     all_goals
      rcases htu with⟨rfl,rfl⟩ | ⟨rfl,rfl,rfl⟩ | ⟨rfl,rfl,rfl⟩
      all_goals
       simp only [if_true,Bool.false_eq_true,if_false] at hz he
       go_wp2_with (first | (go_at_call 46;(first | (with_reducible refine(D6.out _).mono ?_) | (with_reducible refine(D7.out _).mono ?_) | (with_reducible refine(prefix_e 45 45 rfl _).mono ?_) | (with_reducible refine(prefix_e 43 43 rfl _).mono ?_));rintro e w8 ⟨rfl,rfl⟩) | (go_at_call 100;((with_reducible refine(D8.out _).mono ?_));rintro e w8 ⟨rfl,rfl⟩) | (go_at_call 102;((with_reducible refine(D9.out _).mono ?_));rintro e w8 ⟨rfl,rfl⟩) | (go_at_call 103;go_loud (refine(norm_z true A _ _ D _ _ _ _ hz.out (by omega) hlenD HRD.out hcc (by omega) hcm (by omega) (by omega)).mono ?_;rintro e w8 ⟨A8,n8,c8,rfl,hn8,hc8,hr8,hf8,hb8⟩)) | ((with_reducible show wpList _ _ _ (Oper.mk none (Op.store 126 (Operand.tmp 2) (Operand.tmp 100)) _ _ _ _ :: _) _ _);go_loud (refine wpList_sr rfl rfl 126 (.tmp 2) (.tmp 100) rfl (w.heap.size) [.bool z.1,.slice A8 n8 c8,.int .i64 z.2.2] rfl rfl 126 _ (HX7.out.keep hb8) _ Tryz.sz126 (by first | rfl | simp) (by first | rfl | simp) (by first | rfl | simp [Value.oneCell']) ?_;intro w5 hr5 hg5 hz5)))
       have r0:=hr5.out.cell' (i:=0) rfl
       have r1:=hr5.out.cell' (i:=1) rfl
       have r2:=hr5.out.cell' (i:=2) rfl
       refine bodyPost_ret (v:=.tuple #[.agg #[.bool z.1,.slice A8 n8 c8,.int .i64 z.2.2],.bool true]) (by simp [results,Tryz.results76,go_sem,r0,r1,r2]) rfl ?_
       rw [HV.out,he]
       show NumO w (some (normV _ _ _)) _ _
       rw [hz.out]
       have hl7:=HX7.out.lt
       refine⟨(HB7.trans (hb8.mono HB7.size)).grown hg5 (Nat.le_trans HB7.size hb8.size) (fun k e=>by have:=Option.some.inj e;omega),A8,n8,c8,rfl,hn8,hc8,hr8.grown hg5 ?_,?_⟩
       ·rintro ad e he';have h1:=hf8 ad e;have:=Option.some.inj he';omega
       ·rintro ad e;exact Nat.le_trans HB7.size (hf8 ad e)
set_option maxRecDepth 8000 in
set_option maxHeartbeats 8000000 in
theorem numeral_FP (b:List Nat) (w:World) (hb:By b) (hl:b.length<4294967295) (h45:hasP [45] b=false) (hn0:runL b≠0) (hn1:¬(1<runL b∧b[0]? = some 48)) (f:List Nat) (hf:b.drop (runL b)=46 :: f) :
  Calls Tryz.prog 76 #[.string (mks (b))] w (NumO w (bodyV false b)):=by
 have hS:By (b):=by first | exact hb | exact By.cons (by omega) hb
 have D1:=prefix_lit (b) 45 45 rfl hS
 have D2:=run_h b hb (by omega)
 have P1:hasP [45] (b)=false:=h45
 have hrl:=runL_le b
 have hxa:=runL_all b
 have hv1:bodyV false b=if runL f=0 then none else (match expV (f.drop (runL f)) with | none=>none | some k=>some (normV false (dec (b.take (runL b)) ++ dec (f.take (runL f))) (-((runL f:Nat):Int)+k))):=by
  unfold bodyV
  rw [if_neg (fun h=>h.elim hn0 hn1),hf]
  unfold fracV
  rw [if_pos (hasP_cons 46 f)]
  by_cases h0:runL f=0
  ·simp [h0]
  ·simp [h0]
   rfl
 generalize hv:bodyV false b=v at *
 clear hv
 have HX:=Lib.hid (Arr.new w 126 [.bool false,.slice none 0 0,.int .i64 0])
 have HBd:Below w.heap.size w (w.alloc (.cells #[.bool false,.slice none 0 0,.int .i64 0] 126)):=(Below.refl _ _).alloc (Nat.le_refl _) _
 have hp:0<(mks b).size:=by rw [size_mks];omega
 have h48:((1:Int)<((runL b:Nat):Int)∧∃c:Nat,((mks b)[0]'hp).toNat=c∧((c:Int) == 48)=false)∨¬(1:Int)<((runL b:Nat):Int):=by
  by_cases h1:1<runL b
  ·obtain⟨c,hc⟩:∃c,b[0]? = some c:=⟨_,List.getElem?_eq_getElem (by omega)⟩
   refine .inl ⟨by omega,c,get_mks hc (hb.get hc) _,?_⟩
   rw [beq_eq_false_iff_ne]
   intro h
   exact hn1 ⟨h1,by rw [hc,show c=48 by omega]⟩
  ·exact .inr (by omega)
 obtain⟨x,hx⟩:∃x,b.take (runL b)=x:=⟨_,rfl⟩
 have hxl:x.length=runL b:=by rw [←hx,List.length_take];omega
 have hfb:By (46 :: f):=by rw [←hf];exact hb.drop _
 have hfl:f.length+1<4294967295:=by have h:=congrArg List.length hf;rw [List.length_drop,List.length_cons] at h;omega
 rw [hx] at hxa hv1
 have hmf:=runL_le f
 have hya:=runL_all f
 obtain⟨y,hy⟩:∃y,f.take (runL f)=y:=⟨_,rfl⟩
 obtain⟨r,hr⟩:∃r,f.drop (runL f)=r:=⟨_,rfl⟩
 have hyl:y.length=runL f:=by rw [←hy,List.length_take];omega
 have hrb:By r:=by rw [←hr];exact hfb.tail.drop _
 have hrl2:r.length<4294967295:=by rw [←hr,List.length_drop];omega
 rw [hy] at hya hv1
 rw [hr] at hv1
 have D5:=run_h f hfb.tail (by omega)
 have D5b:=bytes_h y _ hya hyl (by omega)
 have P46:hasP [46] (46 :: f)=true:=hasP_cons 46 f
 have D3:=bytes_h x _ hxa hxl (by omega)
 have D4:=prefix_lit (46 :: f) 46 46 rfl hfb
 have HV:=Lib.hid hv1
 have hn00:¬((runL b:Nat):Int)=0:=by omega
 have hnl:((runL b:Nat):Int)≤b.length:=by omega
 have hnn:(0:Int)≤((runL b:Nat):Int):=by omega
 generalize runL b=n at *
 have hmm:(0:Int)≤((runL f:Nat):Int):=by omega
 have hml:((runL f:Nat):Int)≤f.length:=by omega
 have hm0:runL f=0∨(¬runL f=0∧(((runL f:Nat):Int) == 0)=false):=by
  by_cases h:runL f=0
  ·exact .inl h
  ·exact .inr ⟨h,by simp;omega⟩
 generalize runL f=m at *
 clear hv1 hn1 hxa
 have HXL:=Lib.hid hxl
 have HYL:=Lib.hid hyl
 clear hxl hyl hya
 go_enter Tryz.func76,Tryz.ntmps76
 go_upto_region 1 with(fail)
 have hlow:w.heap.size<(w.alloc (.cells #[.bool false,.slice none 0 0,.int .i64 0] 126)).heap.size:=HX.out.lt
 generalize (w.alloc (.cells #[.bool false,.slice none 0 0,.int .i64 0] 126))=W at *
 rcases h48 with⟨h1,c0,h48,h48'⟩ | h1
 all_goals
  rcases hm0 with rfl | ⟨hm0,hm0'⟩
  ·have HV0:v=none:=by have h:=HV.out;rw [if_pos rfl] at h;exact h
   subst HV0
   clear hr hy
   go_wp2_with (first | (go_at_call 46;(first | (with_reducible refine(D1.out _).mono ?_) | (with_reducible refine(D4.out _).mono ?_));rintro e w6 ⟨rfl,rfl⟩) | (go_at_call 100;(first | (with_reducible refine(D2.out _).mono ?_) | (with_reducible refine(D5.out _).mono ?_));rintro e w6 ⟨rfl,rfl⟩) | (go_at_call 101;((with_reducible refine(D3.out _).mono ?_));rintro e w6 ⟨g,rfl,hg,harr,hbl⟩) | ((with_reducible show wpList _ _ _ (Oper.mk none (Op.store 126 (Operand.tmp 2) (Operand.tmp 43)) _ _ _ _ :: _) _ _);go_loud (refine wpList_sr rfl rfl 126 (.tmp 2) (.tmp 43) rfl (w.heap.size) [.bool false,.slice none 0 0,.int .i64 0] rfl rfl 126 _ (HX.out.keep hbl) _ Tryz.sz126 (by first | rfl | simp) (by first | rfl | simp) (by first | rfl | simp [Value.oneCell']) ?_;intro w5 hr5 hg5 hz5)))
   have r0:=hr5.out.cell' (i:=0) rfl
   have r1:=hr5.out.cell' (i:=1) rfl
   have r2:=hr5.out.cell' (i:=2) rfl
   refine bodyPost_ret (v:=.tuple #[.agg #[.bool false,.slice none 0 0,.int .i64 0],.bool false]) (by simp [results,Tryz.results76,go_sem,r0,r1,r2]) rfl ?_
   exact⟨(HBd.trans (hbl.mono (by omega))).grown hg5 (by have:=hbl.size;omega) (fun k e=>by have:=Option.some.inj e;omega),rfl⟩
  ·have HV1:=HV.out
   rw [if_neg hm0] at HV1
   clear HV
   have HV:=Lib.hid HV1
   clear HV1
   have hxd:(B8 (dec x)).length=n:=by have:=HXL.out;simp [length_B8,dec];omega
   have hyd:(B8 (dec y)).length=m:=by have:=HYL.out;simp [length_B8,dec];omega
   go_upto_region 17 with(first | (go_at_call 46;(first | (with_reducible refine(D1.out _).mono ?_) | (with_reducible refine(D4.out _).mono ?_));rintro e w6 ⟨rfl,rfl⟩) | (go_at_call 100;(first | (with_reducible refine(D2.out _).mono ?_) | (with_reducible refine(D5.out _).mono ?_));rintro e w6 ⟨rfl,rfl⟩) | (go_at_call 101;((with_reducible refine(D3.out _).mono ?_));rintro e w6 ⟨g,rfl,hg,harr,hbl⟩) | (go_at_call 101;((with_reducible refine(D5b.out _).mono ?_));rintro e w8 ⟨g8,rfl,hg8,harr8,hbl8⟩) | (at_builtin;go_loud (refine wpList_apl rfl (.tmp 44) (.tmp 49) 108 rfl W.heap.size 5 _ _ Tryz.underlying108 Tryz.info5 rfl _ n (B8 (dec x)) rfl (own_all (harr.out.keep hbl8) (by have:=hg.out;omega) hxd.symm (by unfold maxLen;omega)) (some ⟨g8,0,none⟩) m m (B8 (dec y)) rfl harr8.out.rd hyd (by simp) (B8_one _) (by unfold maxLen;omega) (by omega) (by have:=hbl.size;have:=hbl8.size;omega) ?_;intro v' w7 hown9 hgr9;obtain⟨A9,c9,rfl,hl9,hc9,hm9,hrd9,hf9,_⟩:=own_rd2 hown9;obtain⟨A,rfl⟩:=hrd9.some_ (by intro h;have:=congrArg List.length h;rw [List.length_append,hxd,List.length_nil] at this;omega))))
   have hlgm:=hg.out
   have hnm:n+m≤4294967296:=by have h:=congrArg List.length hf;rw [List.length_drop,List.length_cons] at h;omega
   have hlenD:Hid (n+m=(dec x ++ dec y).length):=by show _=_;have:=HXL.out;have:=HYL.out;simp [dec];omega
   have HRD:Hid (Rd w7 (some A) (B8 (dec x ++ dec y))):=by rw [B8_append];exact hrd9
   have HX7:Hid (Arr w7 w.heap.size 126 [.bool false,.slice none 0 0,.int .i64 0]):=((HX.out.keep hbl).keep hbl8).grown hgr9 (by intro e;have h:w.heap.size=g:=Option.some.inj e;omega)
   have HB7:Below w.heap.size w w7:=((HBd.trans (hbl.mono (by omega))).trans (hbl8.mono (by have:=hbl.size;omega))).grown hgr9 (by have:=hbl.size;have:=hbl8.size;omega) (fun k e=>by have h:g=k:=Option.some.inj e;omega)
   have hcc:=hc9
   have hcm:=hm9
   generalize dec x ++ dec y=D at *
   clear HX HBd harr hbl harr8 hbl8 hgr9 hown9 hrd9 hf9 hl9 D1 D2 D3 D4 D5 D5b P1 P46
   try clear h48 h48'
   clear hp
   rcases exp_cases r with⟨rfl,he⟩ | ⟨c,t,rfl,hc1,hc2,he⟩ | ⟨c,t,u,mi,pl,rfl,hc,hmi,hpl,htu,hu⟩
   ·obtain⟨z,hz⟩:∃z,Hid (normV false D (-((m:Nat):Int)+0)=z):=⟨_,rfl⟩
    go_wp2_with (first | (go_at_call 103;go_loud (refine(norm_z false A _ _ D _ _ _ _ hz.out (by omega) hlenD HRD.out hcc (by omega) hcm (by omega) (by omega)).mono ?_;rintro e w8 ⟨A8,n8,c8,rfl,hn8,hc8,hr8,hf8,hb8⟩)) | ((with_reducible show wpList _ _ _ (Oper.mk none (Op.store 126 (Operand.tmp 2) (Operand.tmp 100)) _ _ _ _ :: _) _ _);go_loud (refine wpList_sr rfl rfl 126 (.tmp 2) (.tmp 100) rfl (w.heap.size) [.bool z.1,.slice A8 n8 c8,.int .i64 z.2.2] rfl rfl 126 _ (HX7.out.keep hb8) _ Tryz.sz126 (by first | rfl | simp) (by first | rfl | simp) (by first | rfl | simp [Value.oneCell']) ?_;intro w5 hr5 hg5 hz5)))
    have r0:=hr5.out.cell' (i:=0) rfl
    have r1:=hr5.out.cell' (i:=1) rfl
    have r2:=hr5.out.cell' (i:=2) rfl
    refine bodyPost_ret (v:=.tuple #[.agg #[.bool z.1,.slice A8 n8 c8,.int .i64 z.2.2],.bool true]) (by simp [results,Tryz.results76,go_sem,r0,r1,r2]) rfl ?_
    rw [HV.out,he]
    show NumO w (some (normV _ _ _)) _ _
    rw [hz.out]
    have hl7:=HX7.out.lt
    refine⟨(HB7.trans (hb8.mono HB7.size)).grown hg5 (Nat.le_trans HB7.size hb8.size) (fun k e=>by have:=Option.some.inj e;omega),A8,n8,c8,rfl,hn8,hc8,hr8.grown hg5 ?_,?_⟩
    ·rintro ad e he';have h1:=hf8 ad e;have:=Option.some.inj he';omega
    ·rintro ad e;exact Nat.le_trans HB7.size (hf8 ad e)
   ·have hgc:=get_mks (l:=c :: t) (i:=0) (c:=c) rfl hrb.head (by rw [size_mks];simp)
    have hc1':((c:Int) != 101)=true:=by simp;omega
    have hc2':((c:Int) != 69)=true:=by simp;omega
    go_wp2_with ((with_reducible show wpList _ _ _ (Oper.mk none (Op.store 126 (Operand.tmp 2) (Operand.tmp 67)) _ _ _ _ :: _) _ _);go_loud (refine wpList_sr rfl rfl 126 (.tmp 2) (.tmp 67) rfl (w.heap.size) [.bool false,.slice none 0 0,.int .i64 0] rfl rfl 126 _ HX7.out _ Tryz.sz126 (by first | rfl | simp) (by first | rfl | simp) (by first | rfl | simp [Value.oneCell']) ?_;intro w5 hr5 hg5 hz5))
    have r0:=hr5.out.cell' (i:=0) rfl
    have r1:=hr5.out.cell' (i:=1) rfl
    have r2:=hr5.out.cell' (i:=2) rfl
    refine bodyPost_ret (v:=.tuple #[.agg #[.bool false,.slice none 0 0,.int .i64 0],.bool false]) (by simp [results,Tryz.results76,go_sem,r0,r1,r2]) rfl ?_
    rw [HV.out,he]
    exact⟨HB7.grown hg5 HB7.size (fun k e=>by have:=Option.some.inj e;omega),rfl⟩
   ·have hgc:=get_mks (l:=c :: t) (i:=0) (c:=c) rfl hrb.head (by rw [size_mks];simp)
    have D6:=prefix_lit t 45 45 rfl hrb.tail
    have D7:=prefix_lit t 43 43 rfl hrb.tail
    have hub:By u:=by rcases htu with⟨_,rfl⟩ | ⟨_,_,rfl⟩ | ⟨_,_,rfl⟩ <;> first | exact hrb.tail.tail | exact hrb.tail
    have hul:u.length<4294967295:=by rcases htu with⟨_,rfl⟩ | ⟨_,_,rfl⟩ | ⟨_,_,rfl⟩ <;> simp at hrl2 ⊢ <;> omega
    have D8:=run_h u hub (by omega)
    have hcc':((c:Int) != 101)=false∨(((c:Int) != 101)=true∧((c:Int) != 69)=false):=by rcases hc with rfl | rfl <;> simp
    clear hc
    rcases hu with⟨hu,he⟩ | ⟨hu,hru,he⟩ | ⟨hu,hru,he⟩
    ·have hE45:hasP [45] []=false:=rfl
     have hE43:hasP [43] []=false:=rfl
     rcases hcc' with hq | ⟨hq1,hq⟩
     all_goals
      rcases htu with⟨rfl,rfl⟩ | ⟨rfl,rfl,rfl⟩ | ⟨rfl,rfl,rfl⟩
      all_goals
       subst hu
       go_wp2_with (first | (go_at_call 46;(first | (with_reducible refine(D6.out _).mono ?_) | (with_reducible refine(D7.out _).mono ?_) | (with_reducible refine(prefix_e 45 45 rfl _).mono ?_) | (with_reducible refine(prefix_e 43 43 rfl _).mono ?_));rintro e w8 ⟨rfl,rfl⟩) | ((with_reducible show wpList _ _ _ (Oper.mk none (Op.store 126 (Operand.tmp 2) (Operand.tmp 88)) _ _ _ _ :: _) _ _);go_loud (refine wpList_sr rfl rfl 126 (.tmp 2) (.tmp 88) rfl (w.heap.size) [.bool false,.slice none 0 0,.int .i64 0] rfl rfl 126 _ HX7.out _ Tryz.sz126 (by first | rfl | simp) (by first | rfl | simp) (by first | rfl | simp [Value.oneCell']) ?_;intro w5 hr5 hg5 hz5)))
       have r0:=hr5.out.cell' (i:=0) rfl
       have r1:=hr5.out.cell' (i:=1) rfl
       have r2:=hr5.out.cell' (i:=2) rfl
       refine bodyPost_ret (v:=.tuple #[.agg #[.bool false,.slice none 0 0,.int .i64 0],.bool false]) (by simp [results,Tryz.results76,go_sem,r0,r1,r2]) rfl ?_
       rw [HV.out,he]
       exact⟨HB7.grown hg5 HB7.size (fun k e=>by have:=Option.some.inj e;omega),rfl⟩
    ·have hie:u.isEmpty=false:=by cases u <;> simp_all
     have hru':(((runL u:Nat):Int) != ((u.length:Nat):Int))=true:=by simp;omega
     rcases hcc' with hq | ⟨hq1,hq⟩
     all_goals
      rcases htu with⟨rfl,rfl⟩ | ⟨rfl,rfl,rfl⟩ | ⟨rfl,rfl,rfl⟩
      all_goals
       go_wp2_with (first | (go_at_call 46;(first | (with_reducible refine(D6.out _).mono ?_) | (with_reducible refine(D7.out _).mono ?_) | (with_reducible refine(prefix_e 45 45 rfl _).mono ?_) | (with_reducible refine(prefix_e 43 43 rfl _).mono ?_));rintro e w8 ⟨rfl,rfl⟩) | (go_at_call 100;((with_reducible refine(D8.out _).mono ?_));rintro e w8 ⟨rfl,rfl⟩) | ((with_reducible show wpList _ _ _ (Oper.mk none (Op.store 126 (Operand.tmp 2) (Operand.tmp 88)) _ _ _ _ :: _) _ _);go_loud (refine wpList_sr rfl rfl 126 (.tmp 2) (.tmp 88) rfl (w.heap.size) [.bool false,.slice none 0 0,.int .i64 0] rfl rfl 126 _ HX7.out _ Tryz.sz126 (by first | rfl | simp) (by first | rfl | simp) (by first | rfl | simp [Value.oneCell']) ?_;intro w5 hr5 hg5 hz5)))
       have r0:=hr5.out.cell' (i:=0) rfl
       have r1:=hr5.out.cell' (i:=1) rfl
       have r2:=hr5.out.cell' (i:=2) rfl
       refine bodyPost_ret (v:=.tuple #[.agg #[.bool false,.slice none 0 0,.int .i64 0],.bool false]) (by simp [results,Tryz.results76,go_sem,r0,r1,r2]) rfl ?_
       rw [HV.out,he]
       exact⟨HB7.grown hg5 HB7.size (fun k e=>by have:=Option.some.inj e;omega),rfl⟩
    ·have hie:u.isEmpty=false:=by cases u <;> simp_all
     have hru':(((runL u:Nat):Int) != ((u.length:Nat):Int))=false:=by simp;omega
     have D9:=small_h u (allD_of_run hru) (by omega)
     have hk9:=smallV_le u 0 (by omega)
     generalize smallV u 0=kk at *
     obtain⟨z,hz⟩:∃z,Hid (normV false D (-((m:Nat):Int)+(if mi then -((kk:Nat):Int) else ((kk:Nat):Int)))=z):=⟨_,rfl⟩
     rcases hcc' with hq | ⟨hq1,hq⟩
     all_goals
      rcases htu with⟨rfl,rfl⟩ | ⟨rfl,rfl,rfl⟩ | ⟨rfl,rfl,rfl⟩
      all_goals
       simp only [if_true,Bool.false_eq_true,if_false] at hz he
       go_wp2_with (first | (go_at_call 46;(first | (with_reducible refine(D6.out _).mono ?_) | (with_reducible refine(D7.out _).mono ?_) | (with_reducible refine(prefix_e 45 45 rfl _).mono ?_) | (with_reducible refine(prefix_e 43 43 rfl _).mono ?_));rintro e w8 ⟨rfl,rfl⟩) | (go_at_call 100;((with_reducible refine(D8.out _).mono ?_));rintro e w8 ⟨rfl,rfl⟩) | (go_at_call 102;((with_reducible refine(D9.out _).mono ?_));rintro e w8 ⟨rfl,rfl⟩) | (go_at_call 103;go_loud (refine(norm_z false A _ _ D _ _ _ _ hz.out (by omega) hlenD HRD.out hcc (by omega) hcm (by omega) (by omega)).mono ?_;rintro e w8 ⟨A8,n8,c8,rfl,hn8,hc8,hr8,hf8,hb8⟩)) | ((with_reducible show wpList _ _ _ (Oper.mk none (Op.store 126 (Operand.tmp 2) (Operand.tmp 100)) _ _ _ _ :: _) _ _);go_loud (refine wpList_sr rfl rfl 126 (.tmp 2) (.tmp 100) rfl (w.heap.size) [.bool z.1,.slice A8 n8 c8,.int .i64 z.2.2] rfl rfl 126 _ (HX7.out.keep hb8) _ Tryz.sz126 (by first | rfl | simp) (by first | rfl | simp) (by first | rfl | simp [Value.oneCell']) ?_;intro w5 hr5 hg5 hz5)))
       have r0:=hr5.out.cell' (i:=0) rfl
       have r1:=hr5.out.cell' (i:=1) rfl
       have r2:=hr5.out.cell' (i:=2) rfl
       refine bodyPost_ret (v:=.tuple #[.agg #[.bool z.1,.slice A8 n8 c8,.int .i64 z.2.2],.bool true]) (by simp [results,Tryz.results76,go_sem,r0,r1,r2]) rfl ?_
       rw [HV.out,he]
       show NumO w (some (normV _ _ _)) _ _
       rw [hz.out]
       have hl7:=HX7.out.lt
       refine⟨(HB7.trans (hb8.mono HB7.size)).grown hg5 (Nat.le_trans HB7.size hb8.size) (fun k e=>by have:=Option.some.inj e;omega),A8,n8,c8,rfl,hn8,hc8,hr8.grown hg5 ?_,?_⟩
       ·rintro ad e he';have h1:=hf8 ad e;have:=Option.some.inj he';omega
       ·rintro ad e;exact Nat.le_trans HB7.size (hf8 ad e)
end Go.Proofs.YtijoollonkibfaaGreatDoor
