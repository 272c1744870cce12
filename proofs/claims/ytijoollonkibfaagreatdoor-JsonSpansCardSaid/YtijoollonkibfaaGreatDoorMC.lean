/- The walk of norm of decimal. -/
import Derived.Test.YtijoollonkibfaaGreatDoorMA
import Derived.Test.YtijoollonkibfaaGreatDoorMB
namespace Go.Proofs.YtijoollonkibfaaGreatDoor
open Go.RowKit
theorem Tryz.sz126:(Tryz.prog.info? 126).map (·.size)=some 3:=by kernel_rfl
def normV (neg:Bool) (d:List Nat) (ex:Int):Bool×List Nat×Int:=
  if tlen (lead 0 d)=0 then (false,[],0) else (neg,(lead 0 d).take (tlen (lead 0 d)),ex+(((lead 0 d).length - tlen (lead 0 d):Nat):Int))
def NumR (w:World) (x:Bool×List Nat×Int) (e:Ending) (w':World):Prop:=
  ∃A n c,e=.returned (.agg #[.bool x.1,.slice A n c,.int .i64 x.2.2])∧Hid (n=x.2.1.length)∧n≤c∧Rd w' A (B8 x.2.1)∧From w.heap.size A∧Below w.heap.size w w'
set_option maxHeartbeats 2000000 in
theorem norm_any (neg : Bool) (ad : Addr) (n c : Nat) (d : List Nat) (ex : Int) (w : World) (hn : Hid (n = d.length)) (hr : Rd w (some ad) (B8 d)) (hc : n ≤ c) (hm : n ≤ 4294967296) (hcm : c ≤ maxLen)
    (h1:-4398046511104≤ex) (h2:ex≤4398046511104) :
    Calls Tryz.prog 103 #[.bool neg,.slice (some ad) n c,.int .i64 ex] w (NumR w (normV neg d ex)):=by
  generalize hv:normV neg d ex=v
  have HV:=Lib.hid hv
  clear hv
  unfold maxLen at hcm
  go_enter Tryz.func103,Tryz.ntmps103
  go_wp2
  go_loopw [1] (fun sv wr=>∃(k:Nat) (B:Addr),k≤n∧sv=.slice (some B) (n - k) (c - k)∧Hid (k<n→B=ad.add k)∧Hid (lead 0 (d.drop k)=lead 0 d)∧w.alloc (.cells #[.bool false,.slice none 0 0,.int .i64 0] 126)=wr) (fun sv _=>match sv with | .slice _ k _=>k | _=>0)
  case atStart=>exact⟨0,ad,Nat.zero_le _,rfl,fun _=>by simp [Addr.add],rfl,rfl⟩
  case round=>
    obtain⟨k,B,hk,rfl,hB,hlead,rfl⟩:=hrel
    have hcase:(k<n∧B=ad.add k∧d[k]? = some 0)∨(k<n∧B=ad.add k∧∃x,d[k]? = some x∧x≠0)∨k=n:=by
      by_cases hlt:k<n
      · obtain⟨x,hx⟩:∃x,d[k]? = some x:=⟨_,List.getElem?_eq_getElem (by have:=hn.out;omega)⟩
        by_cases hx0:x=0
        · subst hx0;exact .inl ⟨hlt,hB.out hlt,hx⟩
        · exact .inr (.inl ⟨hlt,hB.out hlt,x,hx,hx0⟩)
      · exact .inr (.inr (by omega))
    have hrd:∀x,B=ad.add k→d[k]? = some x→(w.alloc (.cells #[.bool false,.slice none 0 0,.int .i64 0] 126)).cell? B=some (.int .u8 (x:Int)):=by
      rintro x rfl hx
      obtain⟨ad',e',hc'⟩:=(hr.alloc (.cells #[.bool false,.slice none 0 0,.int .i64 0] 126)) k _ (B8_get hx)
      obtain rfl:=Option.some.inj e'
      exact hc'
    rcases hcase with⟨hlt,hBe,hx⟩ | hcase
    · have hcell:=hrd 0 hBe hx
      have b1:(0:Int)<((n - k:Nat):Int):=by omega
      have b0:(0:Int)<(n:Int) - k:=by omega
      have hdr:=drop_cons hx
      have hl2:lead 0 (d.drop (k+1))=lead 0 d:=by rw [←hlead.out,hdr,lead_eq]
      have HL:=Lib.hid hl2
      have HBE:=Lib.hid hBe
      clear hdr hl2 hx hrd hBe hB
      go_wp2
      refine⟨⟨k+1,if c - k=1 then B else B.add 1,by omega,?_,?_,HL,trivial⟩,by show n - k - 1<n - k;omega⟩
      · have e1:n - k - 1=n - (k+1):=by omega
        have e2:c - k - 1=c - (k+1):=by omega
        rw [e1,e2]
        split <;> simp [Addr.add]
      · intro h
        rw [if_neg (by omega),HBE.out,add_add]
    · have hfin : Hid (lead 0 d = d.drop k) := by
        show _=_
        rcases hcase with⟨_,_,x,hx,hx0⟩ | rfl
        · rw [←hlead.out,drop_cons hx,lead_ne hx0]
        · rw [←hlead.out,List.drop_eq_nil_of_le (by have:=hn.out;omega)];rfl
      have HV2:Hid ((if tlen (d.drop k)=0 then (false,[],0) else (neg,(d.drop k).take (tlen (d.drop k)),ex+(((d.drop k).length - tlen (d.drop k):Nat):Int)))=v):=by
        have h:=HV.out
        unfold normV at h
        rw [hfin.out] at h
        exact h
      obtain⟨m,hm2⟩:∃m,m=n - k:=⟨_,rfl⟩
      obtain⟨cc,hcc⟩:∃cc,cc=c - k:=⟨_,rfl⟩
      have hdl:Hid ((d.drop k).length=m):=by show _=_;have:=hn.out;simp;omega
      have HRD:Hid (Rd (w.alloc (.cells #[.bool false,.slice none 0 0,.int .i64 0] 126)) (some B) (B8 (d.drop k))):=by
        show Rd _ _ _
        rcases hcase with⟨_,hBe,_⟩ | rfl
        · rw [hBe]
          have h:=(hr.drop k).alloc (.cells #[.bool false,.slice none 0 0,.int .i64 0] 126)
          unfold B8 at h ⊢
          rwa [List.map_drop]
        · rw [List.drop_eq_nil_of_le (by have:=hn.out;omega)]
          exact Rd.nil
      have hhead:(0<m∧∃x:Nat,(w.alloc (.cells #[.bool false,.slice none 0 0,.int .i64 0] 126)).cell? B=some (.int .u8 (x:Int))∧((x:Int) == 0)=false)∨m=0:=by
        rcases hcase with⟨hlt,hBe,x,hx,hx0⟩ | rfl
        · exact .inl ⟨by omega,x,hrd x hBe hx,by simp;omega⟩
        · exact .inr (by omega)
      rw [←hm2,←hcc]
      have hmc:m≤cc:=by omega
      have hm9:m≤4294967296:=by omega
      have hc9:cc≤9223372036854775807:=by omega
      clear hfin HV hlead hB hcase hrd hm2 hcc hn hr hc hm hcm hk
      generalize d.drop k=d1 at *
      have HBd:Below w.heap.size w (w.alloc (.cells #[.bool false,.slice none 0 0,.int .i64 0] 126)):=(Below.refl _ _).alloc (Nat.le_refl _) _
      have HAr:=Lib.hid (Arr.new w 126 [.bool false,.slice none 0 0,.int .i64 0])
      generalize (w.alloc (.cells #[.bool false,.slice none 0 0,.int .i64 0] 126))=W at *
      have hlow:w.heap.size<W.heap.size:=HAr.out.lt
      rcases hhead with⟨hm0,x,hcell,hx0⟩ | hm0
      all_goals
        first | (have hm0':¬(0:Int)<(m:Int):=by omega) | have hm0':(0:Int)<(m:Int):=by omega
        clear hm0
        go_wp2
        go_loopw [1,2] (fun sv ev wr=>∃j:Nat,j≤m∧sv=.slice (some B) j cc∧ev=.int .i64 (ex+((m - j:Nat):Int))∧Hid (tlen (d1.take j)=tlen d1)∧W=wr) (fun sv _ _=>match sv with | .slice _ k _=>k | _=>0)
        case atStart=>exact⟨m,Nat.le_refl _,rfl,by simp,by show _=_;rw [List.take_of_length_le (by have:=hdl.out;omega)],rfl⟩
        case round=>
          obtain⟨j,hj,rfl,rfl,htl,rfl⟩:=hrel
          clear hm0'
          by_cases hj0:j=0
          · subst hj0
            have hv1:v=(false,[],0):=by
              have h:=HV2.out
              rw [if_pos (by rw [←htl.out];simp [tlen])] at h
              exact h.symm
            subst hv1
            have hm00:tlen (d1.take 0)=0:=rfl
            clear HV2 htl
            go_wp2_with ((with_reducible show wpList _ _ _ (Oper.mk none (Op.store 126 (Operand.tmp 6) (Operand.tmp 41)) _ _ _ _ :: _) _ _);go_loud (refine wpList_sr rfl rfl 126 (.tmp 6) (.tmp 41) rfl (w.heap.size) [.bool false,.slice none 0 0,.int .i64 0] rfl rfl 126 _ HAr.out _ Tryz.sz126 (by first | rfl | simp) (by first | rfl | simp) (by first | rfl | simp [Value.oneCell']) ?_;intro w5 hr5 hg5 hz5))
            have r0:=hr5.out.cell' (i:=0) rfl
            have r1:=hr5.out.cell' (i:=1) rfl
            have r2:=hr5.out.cell' (i:=2) rfl
            refine bodyPost_ret (v:=.agg #[.bool false,.slice none 0 0,.int .i64 0]) (by simp [results,Tryz.results103,go_sem,r0,r1,r2]) rfl ?_
            exact⟨none,0,0,rfl,rfl,Nat.le_refl _,Rd.nil,(fun _ h=>by cases h),HBd.grown hg5 HBd.size (fun k e=>by have:=Option.some.inj e;omega)⟩
          · first
            | (exfalso;omega)
            | (obtain ⟨y, hy⟩ : ∃ y, d1[j-1]? = some y := ⟨_, List.getElem?_eq_getElem (by have := hdl.out; omega)⟩
               obtain⟨B',hB',hcell2⟩:=HRD.out.at_ (B8_get hy)
               obtain rfl:=Option.some.inj hB'
               have hs:=tlen_take_succ hy
               rw [show j - 1+1=j by omega] at hs
               have HS:=Lib.hid hs;clear hs
               have e1:((j:Int) - 1).toNat=j - 1:=by omega
               have e2:(0:Int)<(j:Int):=by omega
               have e3:(0:Int)≤(j:Int) - 1:=by omega
               clear hy hB'
               by_cases hz:y=0
               · subst hz
                 go_wp2
                 refine⟨⟨j - 1,by omega,rfl,i64e (by omega),?_,trivial⟩,by show j - 1<j;omega⟩
                 have h1:=HS.out
                 rw [if_pos rfl] at h1
                 exact h1.symm.trans htl.out
               · have hz':((y:Int) == 0)=false:=by simp;omega
                 have htj:tlen d1=j:=by
                   have h1:=HS.out
                   rw [if_neg hz] at h1
                   rw [←htl.out]
                   omega
                 have hv1:v=(neg,d1.take j,ex+((m - j:Nat):Int)):=by
                   have h:=HV2.out
                   rw [if_neg (by omega),htj,hdl.out] at h
                   exact h.symm
                 subst hv1
                 have hl1:(d1.take j).length=j:=by rw [List.length_take];have:=hdl.out;omega
                 have HL1:=Lib.hid hl1
                 clear HV2 htl HS htj hl1
                 have hrt:=HRD.out.take j
                 have hB8:(B8 d1).take j=B8 (d1.take j):=by unfold B8;rw [List.map_take]
                 rw [hB8] at hrt
                 clear hB8
                 have HRT:=Lib.hid hrt
                 clear hrt
                 go_wp2_with (first | (at_make;go_loud (refine wpList_mk rfl _ _ 108 rfl 5 _ _ Tryz.underlying108 Tryz.info5 rfl _ _ _ _ rfl rfl (j) (j) (by omega) (by omega) (by omega) (by omega) (by unfold maxLen;omega) ?_;intro g w1 hg harr hbl hsz)) | (with_reducible refine wpList_cp rfl (.tmp 45) (.tmp 46) 108 108 rfl 5 Tryz.underlying108 Tryz.size5 g (j) (j) (j) cc (some B) rfl rfl _ _ harr.out (by simp) (B8 (d1.take j)) (HRT.out.keep hbl) (by rw [length_B8];exact HL1.out) (Nat.le_refl _) (B8_one _) ?_;intro w2 harr2 hgr2 hsz2) | ((with_reducible show wpList _ _ _ (Oper.mk none (Op.store 126 (Operand.tmp 6) (Operand.tmp 51)) _ _ _ _ :: _) _ _);go_loud (refine wpList_sr rfl rfl 126 (.tmp 6) (.tmp 51) rfl (w.heap.size) [.bool neg,.slice (some ⟨g,0,none⟩) j j,.int .i64 (ex+((m - j:Nat):Int))] rfl rfl 126 _ ((HAr.out.keep hbl).grown hgr2 (by intro e;have:=Option.some.inj e;have:=hg.out;omega)) _ Tryz.sz126 (by first | rfl | simp) (by first | rfl | simp) (by first | rfl | simp [Value.oneCell']) ?_;intro w5 hr5 hg5 hz5)))
                 have hlg:=hg.out
                 have r0:=hr5.out.cell' (i:=0) rfl
                 have r1:=hr5.out.cell' (i:=1) rfl
                 have r2:=hr5.out.cell' (i:=2) rfl
                 refine bodyPost_ret (v:=.agg #[.bool neg,.slice (some ⟨g,0,none⟩) j j,.int .i64 (ex+((m - j:Nat):Int))]) (by simp [results,Tryz.results103,go_sem,r0,r1,r2]) rfl ?_
                 have harr3:=harr2.out
                 rw [List.drop_eq_nil_of_le (by simp),List.append_nil] at harr3
                 refine⟨some ⟨g,0,none⟩,j,j,rfl,HL1.out.symm,Nat.le_refl _,(harr3.grown hg5 (by intro e;have:=Option.some.inj e;omega)).rd,?_,?_⟩
                 · rintro ad e;obtain rfl:=Option.some.inj e;show w.heap.size≤g;omega
                 · have hB1:=HBd.trans (hbl.mono (by omega))
                   refine Below.grown (Below.grown hB1 hgr2 (by have:=hbl.size;omega) (fun k e=>by have:=Option.some.inj e;omega)) hg5 ?_ (fun k e=>by have:=Option.some.inj e;omega)
                   have:=hsz2.out;have:=hsz.out;omega)
end Go.Proofs.YtijoollonkibfaaGreatDoor
namespace Go.Proofs.YtijoollonkibfaaGreatDoor
open Go.RowKit
def limV (x:Bool×List Nat×Int):Int:=if 400<x.2.1.length then 6 else if x.2.2 < -2000∨2000<x.2.2 then 2 else 0
set_option maxHeartbeats 1000000 in
theorem limit_any (x:Bool×List Nat×Int) (A:Option Addr) (n c:Nat) (w:World) (hn:Hid (n=x.2.1.length)) :
  Calls Tryz.prog 104 #[.agg #[.bool x.1,.slice A n c,.int .i64 x.2.2]] w fun e w'=>e=.returned (.int .i64 (limV x))∧Below w.heap.size w w':=by
 have hv:limV x=if 400<n then 6 else if x.2.2 < -2000∨2000<x.2.2 then 2 else 0:=by unfold limV;rw [hn.out]
 rw [hv]
 have HX:=Arr.new w 126 [.bool x.1,.slice A n c,.int .i64 x.2.2]
 have HBd:Below w.heap.size w (w.alloc (.cells #[.bool x.1,.slice A n c,.int .i64 x.2.2] 126)):=(Below.refl _ _).alloc (Nat.le_refl _) _
 have x0:=HX.cell' (i:=0) rfl
 have x1:=HX.cell' (i:=1) rfl
 have x2:=HX.cell' (i:=2) rfl
 clear hv
 go_enter Tryz.func104,Tryz.ntmps104
 go_upto_region 1 with(fail)
 generalize (w.alloc (.cells #[.bool x.1,.slice A n c,.int .i64 x.2.2] 126))=W at *
 go_wp2
 all_goals
  go_ret
  refine⟨ret_i ?_,HBd⟩
  (repeat' split) <;> omega
def signL (neg:Bool):List Nat:=if neg then [45] else []
set_option maxHeartbeats 1000000 in
theorem sign_any (x:Bool×List Nat×Int) (A:Option Addr) (n c:Nat) (w:World) :
  Calls Tryz.prog 143 #[.agg #[.bool x.1,.slice A n c,.int .i64 x.2.2]] w fun e w'=>e=.returned (.string (mks (signL x.1)))∧Below w.heap.size w w':=by
 have HX:=Arr.new w 126 [.bool x.1,.slice A n c,.int .i64 x.2.2]
 have HBd:Below w.heap.size w (w.alloc (.cells #[.bool x.1,.slice A n c,.int .i64 x.2.2] 126)):=(Below.refl _ _).alloc (Nat.le_refl _) _
 have x0:=HX.cell' (i:=0) rfl
 go_enter Tryz.func143,Tryz.ntmps143
 go_upto_region 1 with(fail)
 generalize (w.alloc (.cells #[.bool x.1,.slice A n c,.int .i64 x.2.2] 126))=W at *
 obtain⟨neg,d,ex⟩:=x
 cases neg
 all_goals
  go_wp2
  go_ret
  exact⟨rfl,HBd⟩
theorem asc_set {d:List Nat} {k c:Nat} (hd:d[k]? = some c):((asc (d.take k) ++ List.replicate (d.length - k) 0).set k (48+c))=asc (d.take (k+1)) ++ List.replicate (d.length - (k+1)) 0:=by
 have h:=List.getElem?_eq_some_iff.1 hd
 have hk:=h.1
 have e1:List.replicate (d.length - k) 0=0 :: List.replicate (d.length - (k+1)) 0:=by
  rw [←List.replicate_succ];congr 1;omega
 rw [e1,set_mid (by simp [asc];omega),List.take_succ_eq_append_getElem h.1,h.2]
 simp [asc]
set_option maxRecDepth 8000 in
set_option maxHeartbeats 1000000 in
theorem digits_any (neg:Bool) (d:List Nat) (ex:Int) (A:Option Addr) (n c:Nat) (w:World) (hn:Hid (n=d.length)) (hr:Rd w A (B8 d)) (ht:Ten d) (hm:n≤4294967296) :
  Calls Tryz.prog 144 #[.agg #[.bool neg,.slice A n c,.int .i64 ex]] w fun e w'=>e=.returned (.string (mks (asc d)))∧Below w.heap.size w w':=by
 have HX:=Lib.hid (Arr.new w 126 [.bool neg,.slice A n c,.int .i64 ex])
 have HBd:Below w.heap.size w (w.alloc (.cells #[.bool neg,.slice A n c,.int .i64 ex] 126)):=(Below.refl _ _).alloc (Nat.le_refl _) _
 go_enter Tryz.func144,Tryz.ntmps144
 go_upto_region 1 with(fail)
 have hlow:w.heap.size<(w.alloc (.cells #[.bool neg,.slice A n c,.int .i64 ex] 126)).heap.size:=HX.out.lt
 generalize (w.alloc (.cells #[.bool neg,.slice A n c,.int .i64 ex] 126))=W at *
 have x1:=HX.out.cell' (i:=1) rfl
 go_wp2_with (at_make;go_loud (refine wpList_mk rfl _ _ 108 rfl 5 _ _ Tryz.underlying108 Tryz.info5 rfl _ _ _ _ rfl rfl (n) (n) (by omega) (by omega) (by omega) (by omega) (by unfold maxLen;omega) ?_;intro g w1 hg harr hbl hsz;have x1':=(HX.out.keep hbl).cell' (i:=1) rfl))
 have hS1:Hid (Arr w1 g 5 (B8 (asc (d.take 0) ++ List.replicate (d.length - 0) 0))):=by
  have h:=harr.out
  show Arr _ _ _ _
  have e:B8 (asc (d.take 0) ++ List.replicate (d.length - 0) 0)=List.replicate n (.int .u8 0):=by simp [asc,B8,hn.out]
  rw [e];exact h
 have hB1:Below w.heap.size w w1:=HBd.trans (hbl.mono (by omega))
 have hwg:w.heap.size≤g:=by have:=hg.out;omega
 clear harr hsz x1 hbl
 try clear x1'
 go_loopw [13] (fun iv wr=>∃k:Nat,k≤n∧iv=.int .i64 (k:Int)∧Hid (Arr wr g 5 (B8 (asc (d.take k) ++ List.replicate (d.length - k) 0)))∧Below w.heap.size w wr) (fun iv _=>n - (intOf iv).toNat)
 case atStart=>exact⟨0,by omega,rfl,hS1,hB1⟩
 case round=>
  clear hS1 hB1
  obtain⟨k,hk,rfl,ha,hb⟩:=hrel
  by_cases hlt:k<n
  ·obtain⟨x,hx⟩:∃x,d[k]? = some x:=⟨_,List.getElem?_eq_getElem (by have:=hn.out;omega)⟩
   have cb:=ht.get hx
   obtain⟨ad,rfl,hcell0⟩:=hr.at_ (B8_get hx)
   have hcell:=(hb.cell (block_lt_of_cell hcell0)).trans hcell0
   have hget:(asc (d.take k) ++ List.replicate (d.length - k) 0)[k]? = some 0:=by
    have:=hn.out
    rw [List.getElem?_append_right (by simp [asc];omega),List.getElem?_replicate,if_pos (by simp [asc];omega)]
   have hc2:=ha.out.cell' (B8_get hget)
   have hfr:=ha.out.frozen k
   have hst:=ha.out.store k (.int .u8 ((48+x:Nat):Int))
   rw [B8_set,asc_set hx] at hst
   have ecast:((48+x:Nat):Int)=48+(x:Int):=by omega
   rw [ecast] at hst
   have HST:=Lib.hid hst
   have hB2:=hb.setCell (p:=⟨g,k,none⟩) (by show w.heap.size≤g;omega) (.int .u8 (48+(x:Int)))
   clear hst ecast hget hx hcell0
   go_wp2
   go_roundw
   case rel=>exact⟨k+1,by omega,by go_num,HST,hB2⟩
   case measure=>simp [intOf];omega
  ·obtain rfl:k=n:=by omega
   have hrd:=ha.out.rd
   have hkn:=hn.out
   rw [List.take_of_length_le (by omega),show d.length - k=0 by omega,List.replicate_zero,List.append_nil] at hrd
   have hcv:=run_str (P:=Tryz.prog) wr 108 9 5 Tryz.underlying108 Tryz.underlying5 Tryz.underlying9 (some ⟨g,0,none⟩) k k _ hrd (by simp [asc];omega)
   clear hkn hrd ha
   go_wp2
   go_ret
   exact⟨rfl,hb⟩
end Go.Proofs.YtijoollonkibfaaGreatDoor
namespace Go.Proofs.YtijoollonkibfaaGreatDoor
open Go.RowKit
def coefL (neg:Bool) (d:List Nat):List Nat:=if d = [] then [48] else signL neg ++ asc d
set_option maxRecDepth 8000 in
set_option maxHeartbeats 2000000 in
theorem coef_any (neg:Bool) (d:List Nat) (ex:Int) (A:Option Addr) (n c:Nat) (w:World) (hn:Hid (n=d.length)) (hr:Rd w A (B8 d)) (ht:Ten d) (hm:n≤4294967296) :
  Calls Tryz.prog 122 #[.agg #[.bool neg,.slice A n c,.int .i64 ex]] w fun e w'=>e=.returned (.string (mks (coefL neg d)))∧Below w.heap.size w w':=by
 generalize hcl:coefL neg d=cl
 have HCL:=Lib.hid hcl
 clear hcl
 have HX:=Lib.hid (Arr.new w 126 [.bool neg,.slice A n c,.int .i64 ex])
 have HBd:Below w.heap.size w (w.alloc (.cells #[.bool neg,.slice A n c,.int .i64 ex] 126)):=(Below.refl _ _).alloc (Nat.le_refl _) _
 have hrW:=hr.keep HBd
 go_enter Tryz.func122,Tryz.ntmps122
 go_upto_region 1 with(fail)
 have hlow:w.heap.size<(w.alloc (.cells #[.bool neg,.slice A n c,.int .i64 ex] 126)).heap.size:=HX.out.lt
 generalize (w.alloc (.cells #[.bool neg,.slice A n c,.int .i64 ex] 126))=W at *
 have x1:=HX.out.cell' (i:=1) rfl
 by_cases hd:d = []
 ·subst hd
  have hn0:n=0:=by have:=hn.out;simpa using this
  subst hn0
  have hc:cl = [48]:=HCL.out.symm
  subst hc
  have e48:(ByteArray.mk #[48]:ByteArray)=mks [48]:=mks_lit1 48
  go_wp2
  go_ret
  exact⟨rfl,HBd⟩
 ·have hc:cl=signL neg ++ asc d:=by rw [←HCL.out];unfold coefL;rw [if_neg hd]
  subst hc
  clear HCL
  have hn0:((n:Int) == 0)=false:=by
   have h1:=hn.out
   have h2:0<d.length:=List.length_pos_iff.2 hd
   simp;omega
  go_upto_region 3 with(fail)
  obtain⟨zz,hzz⟩:∃zz,Hid (W.heap.size=zz):=⟨_,rfl⟩
  have hz1:w.heap.size<zz:=by have:=hzz.out;omega
  have hz2:zz≤W.heap.size:=by have:=hzz.out;omega
  have RX:∀w',Below zz W w'→Rd w' A (B8 d):=fun w' h=>hrW.keep (by rw [hzz.out];exact h)
  have q0:∀w',Below zz W w'→w'.cell? ⟨w.heap.size,0,none⟩=some (.bool neg):=fun w' h=>(Arr.below (w:=W) HX.out h (by omega)).cell' (i:=0) rfl;have qf0:∀w',Below zz W w'→w'.frozen? ⟨w.heap.size,0,none⟩=false:=fun w' h=>(Arr.below (w:=W) HX.out h (by omega)).frozen 0;have q1:∀w',Below zz W w'→w'.cell? ⟨w.heap.size,1,none⟩=some (.slice A n c):=fun w' h=>(Arr.below (w:=W) HX.out h (by omega)).cell' (i:=1) rfl;have qf1:∀w',Below zz W w'→w'.frozen? ⟨w.heap.size,1,none⟩=false:=fun w' h=>(Arr.below (w:=W) HX.out h (by omega)).frozen 1;have q2:∀w',Below zz W w'→w'.cell? ⟨w.heap.size,2,none⟩=some (.int .i64 ex):=fun w' h=>(Arr.below (w:=W) HX.out h (by omega)).cell' (i:=2) rfl;have qf2:∀w',Below zz W w'→w'.frozen? ⟨w.heap.size,2,none⟩=false:=fun w' h=>(Arr.below (w:=W) HX.out h (by omega)).frozen 2
  have E1:Hid (∀w,Calls Tryz.prog 143 #[.agg #[.bool neg,.slice A n c,.int .i64 ex]] w fun e w'=>e=.returned (.string (mks (signL neg)))∧Below w.heap.size w w'):=fun w=>sign_any (neg,d,ex) A n c w
  have E2:Hid (∀w,Below zz W w→Calls Tryz.prog 144 #[.agg #[.bool neg,.slice A n c,.int .i64 ex]] w fun e w'=>e=.returned (.string (mks (asc d)))∧Below w.heap.size w w'):=fun w h=>digits_any neg d ex A n c w hn (RX w h) ht hm
  have HS:Below zz W W:=Below.refl _ _
  have HSd:Below zz W W.drew:=Below.drew HS
  have hz3:zz≤W.drew.heap.size:=hz2
  have hl1:(signL neg).length≤1:=by cases neg <;> decide
  have hl2:(asc d).length≤4294967296:=by have:=hn.out;simp [asc];omega
  have hl3:¬9223372036854775807<(signL neg).length+(asc d).length:=by omega
  clear RX hr hrW x1
  go_region_held3 (fun w'=>Below zz W w') (assumption) (first | (go_at_call 143;((with_reducible refine(E1.out _).mono ?_));(all_goals try (fail));rintro e w5 ⟨rfl,hb5⟩;have z5:=hb5.size;(try simp at z5);have hS5_0:Below zz W w5:=Below.trans (by first | assumption | exact Below.alloc (by assumption) (by first | omega | (simp;omega)) _ | exact Below.allocDrew (by assumption) (by first | omega | (simp;omega)) _) (hb5.mono (by first | omega | (simp;omega)))) | (go_at_call 144;((with_reducible refine(E2.out _ (by assumption)).mono ?_));(all_goals try (fail));rintro e w6 ⟨rfl,hb6⟩;have z6:=hb6.size;(try simp at z6);have hS6_0:Below zz W w6:=Below.trans (by first | assumption | exact Below.alloc (by assumption) (by first | omega | (simp;omega)) _ | exact Below.allocDrew (by assumption) (by first | omega | (simp;omega)) _) (hb6.mono (by first | omega | (simp;omega)))))
  all_goals
   go_wp2
   go_ret
   refine⟨rfl,HBd.trans ?_⟩
   have hdw:W.drew.heap.size=W.heap.size:=rfl
   have hW:Below w.heap.size W W.drew:=Below.drew (Below.refl _ _)
   first
    | exact(hW.trans (hb5.mono (by omega))).trans (hb6.mono (by omega))
    | exact(hW.trans (hb6.mono (by omega))).trans (hb5.mono (by omega))
end Go.Proofs.YtijoollonkibfaaGreatDoor
namespace Go.Proofs.YtijoollonkibfaaGreatDoor
open Go.RowKit
def expV (s:List Nat):Option Int:=
  match s with
  | []=>some 0
  | c :: t => if c = 101 ∨ c = 69 then
      (if (if hasP [45] t∨hasP [43] t then t.drop 1 else t) = []∨runL (if hasP [45] t∨hasP [43] t then t.drop 1 else t)≠(if hasP [45] t∨hasP [43] t then t.drop 1 else t).length then none
       else some (if hasP [45] t then -((smallV (if hasP [45] t∨hasP [43] t then t.drop 1 else t) 0:Nat):Int) else ((smallV (if hasP [45] t∨hasP [43] t then t.drop 1 else t) 0:Nat):Int)))
    else none
def fracV (s:List Nat):Option (List Nat×Nat×List Nat):=
  if hasP [46] s then (if runL (s.drop 1)=0 then none else some (dec ((s.drop 1).take (runL (s.drop 1))),runL (s.drop 1),s.drop (runL (s.drop 1)+1))) else some ([],0,s)
def bodyV (neg:Bool) (b:List Nat):Option (Bool×List Nat×Int):=
  if runL b=0∨(1<runL b∧b[0]? = some 48) then none else
    match fracV (b.drop (runL b)) with
    | none=>none
    | some (d',m,r)=>match expV r with
      | none=>none
      | some k=>some (normV neg (dec (b.take (runL b)) ++ d') (-(m:Int)+k))
def numeralV (s:List Nat):Option (Bool×List Nat×Int):=bodyV (hasP [45] s) (if hasP [45] s then s.drop 1 else s)
def NumO (w:World) (o:Option (Bool×List Nat×Int)) (e:Ending) (w':World):Prop:=
  Below w.heap.size w w' ∧
  match o with
  | none=>e=.returned (.tuple #[.agg #[.bool false,.slice none 0 0,.int .i64 0],.bool false])
  | some x=>∃A n c,e=.returned (.tuple #[.agg #[.bool x.1,.slice A n c,.int .i64 x.2.2],.bool true])∧Hid (n=x.2.1.length)∧n≤c∧Rd w' A (B8 x.2.1)∧From w.heap.size A
theorem hasP_cons (c:Nat) (t:List Nat):hasP [c] (c :: t)=true:=by simp [hasP]
theorem hasP_one {c:Nat} {s:List Nat} (h:hasP [c] s=true):∃t,s=c :: t:=by
  unfold hasP at h
  rw [decide_eq_true_iff] at h
  match s,h with
  | [],h=>simp at h
  | x :: t,h=>exact⟨t,by simp at h;rw [h]⟩
theorem smallV_le (l:List Nat) (n:Nat) (h:n≤1099511627776):smallV l n≤1099511627776:=by
  induction l generalizing n with
  | nil=>exact h
  | cons c l ih=>exact ih _ (by split <;> omega)
theorem AllD.by_ {l:List Nat} (h:AllD l):By l:=fun c hc=>by have:=h c hc;omega
theorem allD_of_run {l:List Nat} (h:runL l=l.length):AllD l:=by
  have:=runL_all l
  rwa [h,List.take_length] at this
theorem Rd.some_ {w:World} {A:Option Addr} {xs:List Value} (h:Rd w A xs) (hx:xs≠[]):∃ad,A=some ad:=by
  match xs,hx with
  | x :: t,_=>exact(h 0 x rfl).imp fun _ h=>h.1
theorem exp_cases (r : List Nat) : (r = [] ∧ expV r = some 0) ∨ (∃ c t, r = c :: t ∧ ¬ c = 101 ∧ ¬ c = 69 ∧ expV r = none) ∨
    (∃c t u mi pl,r=c :: t∧(c=101∨c=69)∧hasP [45] t=mi∧hasP [43] t=pl∧(mi=true∧t=45 :: u∨mi=false∧pl=true∧t=43 :: u∨mi=false∧pl=false∧t=u) ∧
      (u = []∧expV r=none∨u≠[]∧runL u≠u.length∧expV r=none∨u≠[]∧runL u=u.length∧expV r=some (if mi then -((smallV u 0:Nat):Int) else ((smallV u 0:Nat):Int)))):=by
  cases r with
  | nil=>exact .inl ⟨rfl,rfl⟩
  | cons c t=>
    by_cases hc:c=101∨c=69
    · refine .inr (.inr ⟨c,t,if hasP [45] t∨hasP [43] t then t.drop 1 else t,hasP [45] t,hasP [43] t,rfl,hc,rfl,rfl,?_,?_⟩)
      · cases h1:hasP [45] t with
        | true=>obtain⟨u,rfl⟩:=hasP_one h1;exact .inl ⟨rfl,by simp⟩
        | false=>
          cases h2:hasP [43] t with
          | true=>obtain⟨u,rfl⟩:=hasP_one h2;exact .inr (.inl ⟨rfl,rfl,by simp⟩)
          | false=>exact .inr (.inr ⟨rfl,rfl,by simp⟩)
      · unfold expV
        simp only [hc,if_true]
        generalize (if hasP [45] t∨hasP [43] t then t.drop 1 else t)=u
        by_cases hu:u = []
        · exact .inl ⟨hu,by simp [hu]⟩
        · by_cases hr:runL u=u.length
          · exact .inr (.inr ⟨hu,hr,by simp [hu,hr]⟩)
          · exact .inr (.inl ⟨hu,hr,by simp [hr]⟩)
    · refine .inr (.inl ⟨c,t,rfl,fun h=>hc (.inl h),fun h=>hc (.inr h),?_⟩)
      unfold expV
      simp only [hc,if_false]
theorem prefix_lit (s:List Nat) (c:UInt8) (k:Nat) (hk:c.toNat=k) (hs:By s):Hid (∀w,Calls Tryz.prog 46 #[.string (mks s),.string ⟨#[c]⟩] w fun e w'=>e=.returned (.bool (hasP [k] s))∧w=w'):=by
  intro w
  rw [mks_lit1,hk]
  exact prefix_any s [k] hs (By.cons (by have:=c.toNat_lt;omega) By.nil) w
theorem run_h (s:List Nat) (hs:By s) (hl:s.length<4294967296):Hid (∀w,Calls Tryz.prog 100 #[.string (mks s)] w fun e w'=>e=.returned (.int .i64 ((runL s:Nat):Int))∧w=w'):=fun w=>run_any s hs w hl
set_option maxRecDepth 8000 in
set_option maxHeartbeats 4000000 in
theorem numeral_badN (b : List Nat) (w : World) (hb : By b) (hl : b.length < 4294967295)  (hbad : runL b = 0 ∨ (1 < runL b ∧ b[0]? = some 48)) :
    Calls Tryz.prog 76 #[.string (mks (45 :: b))] w (NumO w none):=by
  have hS:By (45 :: b):=by first | exact hb | exact By.cons (by omega) hb
  have D1:=prefix_lit (45 :: b) 45 45 rfl hS
  have D2:=run_h b hb (by omega)
  have P1:hasP [45] (45 :: b)=true:=hasP_cons 45 b
  have hrl:=runL_le b
  have HX:=Lib.hid (Arr.new w 126 [.bool false,.slice none 0 0,.int .i64 0])
  have HBd:Below w.heap.size w (w.alloc (.cells #[.bool false,.slice none 0 0,.int .i64 0] 126)):=(Below.refl _ _).alloc (Nat.le_refl _) _
  have hbr:((runL b:Nat):Int)=0∨(¬((runL b:Nat):Int)=0∧(1:Int)<((runL b:Nat):Int)∧∃hp:0<(mks b).size,((mks b)[0]'hp).toNat=48):=by
    rcases hbad with h | ⟨h,h'⟩
    · exact .inl (by omega)
    · exact .inr ⟨by omega,by omega,by rw [size_mks];omega,get_mks h' (by omega) _⟩
  generalize hn:runL b=n at *
  have HN:=Lib.hid hn
  clear hbad hn
  go_enter Tryz.func76,Tryz.ntmps76
  go_upto_region 1 with(fail)
  generalize (w.alloc (.cells #[.bool false,.slice none 0 0,.int .i64 0] 126))=W at *
  rcases hbr with hn0 | ⟨hn0,hn1,hp,h48⟩
  all_goals
    go_wp2_with (first | (go_at_call 46;((with_reducible refine(D1.out _).mono ?_));rintro e w6 ⟨rfl,rfl⟩) | (go_at_call 100;((with_reducible refine(D2.out _).mono ?_));rintro e w6 ⟨rfl,rfl⟩) | ((with_reducible show wpList _ _ _ (Oper.mk none (Op.store 126 (Operand.tmp 2) (Operand.tmp 28)) _ _ _ _ :: _) _ _);go_loud (refine wpList_sr rfl rfl 126 (.tmp 2) (.tmp 28) rfl (w.heap.size) [.bool false,.slice none 0 0,.int .i64 0] rfl rfl 126 _ HX.out _ Tryz.sz126 (by first | rfl | simp) (by first | rfl | simp) (by first | rfl | simp [Value.oneCell']) ?_;intro w5 hr5 hg5 hz5)))
    have r0:=hr5.out.cell' (i:=0) rfl
    have r1:=hr5.out.cell' (i:=1) rfl
    have r2:=hr5.out.cell' (i:=2) rfl
    refine bodyPost_ret (v:=.tuple #[.agg #[.bool false,.slice none 0 0,.int .i64 0],.bool false]) (by simp [results,Tryz.results76,go_sem,r0,r1,r2]) rfl ?_
    exact⟨HBd.grown hg5 HBd.size (fun k e=>by have:=Option.some.inj e;omega),rfl⟩
set_option maxRecDepth 8000 in
set_option maxHeartbeats 4000000 in
theorem numeral_badP (b : List Nat) (w : World) (hb : By b) (hl : b.length < 4294967295) (h45 : hasP [45] b = false) (hbad : runL b = 0 ∨ (1 < runL b ∧ b[0]? = some 48)) :
    Calls Tryz.prog 76 #[.string (mks (b))] w (NumO w none):=by
  have hS:By (b):=by first | exact hb | exact By.cons (by omega) hb
  have D1:=prefix_lit (b) 45 45 rfl hS
  have D2:=run_h b hb (by omega)
  have P1:hasP [45] (b)=false:=h45
  have hrl:=runL_le b
  have HX:=Lib.hid (Arr.new w 126 [.bool false,.slice none 0 0,.int .i64 0])
  have HBd:Below w.heap.size w (w.alloc (.cells #[.bool false,.slice none 0 0,.int .i64 0] 126)):=(Below.refl _ _).alloc (Nat.le_refl _) _
  have hbr:((runL b:Nat):Int)=0∨(¬((runL b:Nat):Int)=0∧(1:Int)<((runL b:Nat):Int)∧∃hp:0<(mks b).size,((mks b)[0]'hp).toNat=48):=by
    rcases hbad with h | ⟨h,h'⟩
    · exact .inl (by omega)
    · exact .inr ⟨by omega,by omega,by rw [size_mks];omega,get_mks h' (by omega) _⟩
  generalize hn:runL b=n at *
  have HN:=Lib.hid hn
  clear hbad hn
  go_enter Tryz.func76,Tryz.ntmps76
  go_upto_region 1 with(fail)
  generalize (w.alloc (.cells #[.bool false,.slice none 0 0,.int .i64 0] 126))=W at *
  rcases hbr with hn0 | ⟨hn0,hn1,hp,h48⟩
  all_goals
    go_wp2_with (first | (go_at_call 46;((with_reducible refine(D1.out _).mono ?_));rintro e w6 ⟨rfl,rfl⟩) | (go_at_call 100;((with_reducible refine(D2.out _).mono ?_));rintro e w6 ⟨rfl,rfl⟩) | ((with_reducible show wpList _ _ _ (Oper.mk none (Op.store 126 (Operand.tmp 2) (Operand.tmp 28)) _ _ _ _ :: _) _ _);go_loud (refine wpList_sr rfl rfl 126 (.tmp 2) (.tmp 28) rfl (w.heap.size) [.bool false,.slice none 0 0,.int .i64 0] rfl rfl 126 _ HX.out _ Tryz.sz126 (by first | rfl | simp) (by first | rfl | simp) (by first | rfl | simp [Value.oneCell']) ?_;intro w5 hr5 hg5 hz5)))
    have r0:=hr5.out.cell' (i:=0) rfl
    have r1:=hr5.out.cell' (i:=1) rfl
    have r2:=hr5.out.cell' (i:=2) rfl
    refine bodyPost_ret (v:=.tuple #[.agg #[.bool false,.slice none 0 0,.int .i64 0],.bool false]) (by simp [results,Tryz.results76,go_sem,r0,r1,r2]) rfl ?_
    exact⟨HBd.grown hg5 HBd.size (fun k e=>by have:=Option.some.inj e;omega),rfl⟩
end Go.Proofs.YtijoollonkibfaaGreatDoor
