/- Parse of integer. -/
import Derived.Test.YtijoollonkibfaaGreatDoorMB
import Derived.Test.YtijoollonkibfaaGreatDoorMA
namespace Go.Proofs.YtijoollonkibfaaGreatDoor
open Go.RowKit
def pB (neg:Bool) (bs:Nat) (b:List Nat):List Nat×Int:=
  if b.all (fun c=>decide (digV c<bs))=true then (if (lead 48 b).length≤1600 then (tS (neg,hor bs digV (lead 48 b)),tE (neg,hor bs digV (lead 48 b))) else ([],6)) else ([],3)
theorem digit_still (c:Nat) (h:c<256) (w:World):Calls Tryz.prog 72 #[.int .u8 (c:Int)] w fun e w'=>e=.returned (.int .i64 ((digV c:Nat):Int))∧w'=w:=by
  refine(digit_any (c:Int) (by omega) (by omega) w).mono ?_
  rintro e w' ⟨rfl,rfl⟩
  exact⟨rfl,rfl⟩
set_option maxRecDepth 8000 in
set_option maxHeartbeats 4000000 in
theorem parse_P (b : List Nat) (bs : Nat) (w : World) (hl : By b) (hb2 : 2 ≤ bs) (hb16 : bs ≤ 16) (hk : knownB bs = true) (hlen : b.length < 4294967296) (hne : b ≠ [])  :
    Calls Tryz.prog 52 #[.string (mks (43 :: b)),.int .i64 (bs:Int)] w fun e w'=>e=.returned (.tuple #[.string (mks (pB false bs b).1),.int .i64 (pB false bs b).2])∧Below w.heap.size w w':=by
  generalize hP:pB false bs b=pr
  have HP:=Lib.hid hP
  clear hP
  obtain⟨sres,eres⟩:=pr
  dsimp only
  have HK:=Lib.hid hk
  clear hk
  have hb0:0<b.length:=List.length_pos_iff.2 hne
  have hie:b.isEmpty=false:=by cases b <;> simp_all
  obtain⟨c0,hc0⟩:∃c0,b[0]? = some c0:=⟨_,List.getElem?_eq_getElem hb0⟩
  skip
  have hgz:=get_mks (l:=43 :: b) (i:=0) (c:=43) rfl (by omega) (by rw [size_mks];simp)
  clear hc0
  go_enter Tryz.func52,Tryz.ntmps52
  go_upto_region 9 with(go_at_call 71;go_loud (refine(known_any _ _).mono ?_;rw [HK.out];rintro e w6 ⟨rfl,rfl⟩))
  have HX:Hid (Arr (w.alloc (.cells #[.bool false,.slice none 0 0] 121)) w.heap.size 121 [.bool false,.slice none 0 0]):=Arr.new w 121 [.bool false,.slice none 0 0]
  have hBW:Below w.heap.size w (w.alloc (.cells #[.bool false,.slice none 0 0] 121)):=(Below.refl _ _).alloc (Nat.le_refl _) _
  have hsW:w.heap.size<(w.alloc (.cells #[.bool false,.slice none 0 0] 121)).heap.size:=by simp
  clear hgz
  generalize (w.alloc (.cells #[.bool false,.slice none 0 0] 121))=W at *
  go_wp2
  go_loopw [35] (fun iv wr=>∃k:Nat,iv=.int .i64 k∧k≤b.length∧(∀c∈b.take k,digV c<bs)∧W=wr) (fun iv _=>b.length - (intOf iv).toNat)
  case atStart=>exact⟨0,rfl,Nat.zero_le _,by simp,rfl⟩
  case round=>
    obtain⟨k,rfl,hk,hall,rfl⟩:=hrel
    by_cases hlt:k<b.length
    · obtain⟨d,hd⟩:∃d,b[k]? = some d:=⟨_,List.getElem?_eq_getElem hlt⟩
      have hdb:=hl.get hd
      have hgk:=get_mks hd hdb (by rw [size_mks];exact hlt)
      have hte:b.take (k+1)=b.take k ++ [d]:=by
        have:=List.getElem?_eq_some_iff.1 hd
        rw [List.take_succ_eq_append_getElem this.1,this.2]
      have HTE:=Lib.hid hte
      clear hte
      by_cases hdd:digV d<bs
      · clear hd
        go_wp2_with (go_at_call 72;go_loud (refine(digit_still d hdb _).mono ?_;rintro e w6 ⟨rfl,rfl⟩))
        go_roundw
        case rel=>
          refine⟨k+1,by go_num,hlt,?_,trivial⟩
          rw [HTE.out]
          intro c hc
          rcases List.mem_append.1 hc with hc | hc
          · exact hall c hc
          · rw [List.mem_singleton.1 hc];exact hdd
        case measure=>simp [intOf];omega
      · have hPN : pB false bs b = ([], 3) := by
          unfold pB
          rw [if_neg]
          intro h
          exact hdd (of_decide_eq_true (List.all_eq_true.1 h d (List.mem_of_getElem? hd)))
        have HP2:=HP.out
        rw [hPN] at HP2
        obtain⟨rfl,rfl⟩:=Prod.mk.inj HP2
        clear hPN HP2 hd
        go_wp2_with (go_at_call 72;go_loud (refine(digit_still d hdb _).mono ?_;rintro e w6 ⟨rfl,rfl⟩))
        refine bodyPost_ret (v:=.tuple #[.string (mks []),.int .i64 3]) (by simp [results,Tryz.results52,go_sem];rfl) rfl ?_
        exact⟨rfl,hBW⟩
    · obtain rfl:k=b.length:=by omega
      rw [List.take_length] at hall
      have hPA:pB false bs b=(if (lead 48 b).length≤1600 then (tS (false,hor bs digV (lead 48 b)),tE (false,hor bs digV (lead 48 b))) else ([],6)):=by
        unfold pB
        rw [if_pos (List.all_eq_true.2 fun c hc=>decide_eq_true (hall c hc))]
      have HP2:=HP.out
      rw [hPA] at HP2
      have HPP:=Lib.hid HP2
      clear hPA HP2 HP hlt hk
      go_upto_region 15 with(fail)
      go_loopw [0] (fun sv wr=>∃l1:List Nat,sv=.string (mks l1)∧Hid (lead 48 l1=lead 48 b)∧By l1∧(∀c∈l1,digV c<bs)∧l1.length<4294967296∧W=wr) (fun sv _=>match sv with | .string s=>s.size | _=>0)
      case atStart=>exact⟨b,rfl,rfl,hl,hall,hlen,rfl⟩
      case round=>
        clear hall hlen hl
        obtain⟨l1,rfl,he1,hl1,hall,hn1,rfl⟩:=hrel
        rcases lead_split 48 l1 with rfl | ⟨t,rfl⟩ | ⟨c,hc,h0,hll⟩
        rotate_left
        · have hg0:=get_mks (l:=48 :: t) (i:=0) rfl (by omega) (by rw [size_mks];simp)
          go_wp2
          go_roundw
          case rel=>exact⟨t,rfl,by show _=_;rw [←he1.out,lead_eq],hl1.tail,fun c hc=>hall c (List.mem_cons_of_mem _ hc),by simp at hn1;omega,trivial⟩
          case measure=>show(mks t).size<(mks (48 :: t)).size;rw [size_mks,size_mks];simp
        · have hcb:=hl1.get hc
          have hL0:0<l1.length:=(List.getElem?_eq_some_iff.1 hc).1
          have hg0:=get_mks hc hcb (by rw [size_mks];exact hL0)
          have h0':((c:Int) == 48)=false:=by simp;omega
          have hne1:¬l1 = []:=by intro h;rw [h] at hL0;simp at hL0
          have hie1:l1.isEmpty=false:=by cases l1 <;> simp_all
          rw [←he1.out,hll] at HPP
          clear h0 he1 hll hc
          by_cases hlong:1600<(l1:List Nat).length
          · first
            | (skip;done)
            | (have HS' := HPP.out
               rw [if_neg (by omega)] at HS'
               obtain⟨rfl,rfl⟩:=Prod.mk.inj HS'
               clear HS' HPP
               go_wp2
               refine bodyPost_ret (v:=.tuple #[.string (mks []),.int .i64 6]) (by simp [results,Tryz.results52,go_sem];rfl) rfl ?_
               exact⟨rfl,hBW⟩)
          · have HS':=HPP.out
            rw [if_pos (by first | omega | simp)] at HS'
            obtain⟨hS,hE⟩:=Prod.mk.inj HS'
            have HSS:=Lib.hid hS
            have HEE:=Lib.hid hE
            clear HS' HPP hS hE
            go_upto_region 19 with(fail)
            go_wp2
            go_loopw [59] (fun iv w2 => ∃ (k : Nat) (A : Option Addr) (n c : Nat), iv = .int .i64 k ∧ k ≤ (l1 : List Nat).length ∧ Hid (n = (dg (hor bs digV ((l1 : List Nat).take k))).length) ∧ n ≤ c ∧ n ≤ 3 * k ∧ Rd w2 A (B8 (dg (hor bs digV ((l1 : List Nat).take k)))) ∧
                (∀ad,A=some ad→ad.block≠w.heap.size)∧Hid (Arr w2 w.heap.size 121 [.bool false,.slice A n c])∧Below w.heap.size w w2∧w.heap.size<w2.heap.size) (fun iv _=>(l1:List Nat).length - (intOf iv).toNat)
            case atStart=>exact⟨0,none,0,0,rfl,Nat.zero_le _,by show _=_;simp [hor,horF,dg_zero],Nat.le_refl _,Nat.le_refl _,by simp [hor,horF,dg_zero];exact Rd.nil,(fun _ h=>by cases h),HX,hBW,hsW⟩
            case round=>
              clear HX hBW hsW
              obtain⟨k,A,n,c,rfl,hk,hn2,hnc,hn3,hr,hA,hx,hb,hsz⟩:=hrel
              have h3:=hb.size
              by_cases hlt:k<(l1:List Nat).length
              · first
                | (exfalso;simp at hlt;done)
                | (obtain ⟨d, hd⟩ : ∃ d, (l1 : List Nat)[k]? = some d := ⟨_, List.getElem?_eq_getElem hlt⟩
                   have hdb:=hl1.get hd
                   have hgk:=get_mks hd hdb (by rw [size_mks];exact hlt)
                   have hst:=hor_step (b:=bs) (f:=digV) hd
                   have HST:=Lib.hid hst
                   clear hst
                   have hdl9:=digV_le d
                   have x1:wr.drew.cell? ⟨w.heap.size,1,none⟩=some (.slice A n c):=hx.out.cell' (i:=1) rfl
                   have HXd:Hid (Arr wr.drew w.heap.size 121 [.bool false,.slice A n c]):=hx
                   have hsm:=small_any A n c (hor bs digV ((l1:List Nat).take k)) bs (digV d:Nat) wr.drew hn2 hr.drew hnc (by omega) (by omega) (by omega) (by omega) (by omega)
                   rw [Int.toNat_natCast,Int.toNat_natCast] at hsm
                   have HSM:=Lib.hid hsm
                   clear hsm hd
                   go_upto_region 22 with(fail)
                   refine wp_region_still_tail 7 (by kernel_rfl) (by kernel_rfl) ?_
                   simp only [List.take_succ_cons,List.take_zero,List.drop_succ_cons,List.drop_zero]
                   still_step
                   still_step
                   still_step
                   still_step
                   still_step
                   still_step
                   still_call (digit_still d hdb _)
                   refine wpStill_nil ?_
                   change wpList _ _ _ _ _ wr.drew
                   go_wp2_with (go_at_call 73;go_loud (refine HSM.out.mono ?_;rintro e w5 ⟨A5,n5,c5,rfl,hn5,hc5,hr5,hf5,hb5⟩;have x1':=(HXd.out.keep hb5).cell' (i:=1) rfl;have xf1':=(HXd.out.keep hb5).frozen 1))
                   have h5:=hb5.size
                   have hz5:wr.heap.size≤w5.heap.size:=h5
                   have hf5':From wr.heap.size A5:=hf5
                   have hX6:=(HXd.out.keep hb5).store 1 (.slice A5 n5 c5)
                   have hr6:=hr5.setCell (p:=⟨w.heap.size,1,none⟩) (.slice A5 n5 c5) (fun ad e=>by have:=hf5' ad e;dsimp only;omega)
                   have hb6:=(hb.drew.trans (hb5.mono h3)).setCell (p:=⟨w.heap.size,1,none⟩) (Nat.le_refl _) (.slice A5 n5 c5)
                   rw [length_B8,←HST.out] at hn5
                   rw [←HST.out] at hr6
                   have hdl:=hor_dg_len (b:=bs) (f:=digV) (l:=(l1:List Nat).take (k+1)) (fun c hc=>hall c (List.mem_of_mem_take hc)) (by omega)
                   have hn5':=hn5.out
                   rw [List.length_take] at hdl
                   go_roundw
                   case rel=>exact⟨k+1,A5,n5,c5,by go_num,hlt,hn5,hc5,by omega,hr6,fun ad e=>by have:=hf5' ad e;omega,hX6,hb6,by rw [World.size_setCell];omega⟩
                   case measure=>simp [intOf];omega)
              · obtain rfl:k=(l1:List Nat).length:=by omega
                have x0:=hx.out.cell' (i:=0) rfl
                have x1:=hx.out.cell' (i:=1) rfl
                have xf0:=hx.out.frozen 0
                rw [List.take_length] at hn2 hr
                have hnL:(l1:List Nat).length≤1600:=by first | omega | simp
                generalize hor bs digV (l1:List Nat)=m at *
                go_wp2_with (go_at_call 74;go_loud (refine(text2_any _ A _ _ _ _ hn2 hr (by omega)).mono ?_;rintro e w6 ⟨rfl,hb6⟩))
                refine bodyPost_ret (v:=.tuple #[.string (mks _),.int .i64 _]) (by simp [results,Tryz.results52,go_sem];exact⟨rfl,rfl⟩) rfl ?_
                rw [←HSS.out,←HEE.out]
                exact⟨rfl,hb.trans (hb6.mono (by omega))⟩
        · skip
          skip
          skip
          skip
          skip
          skip
          rw [←he1.out,show lead 48 [] = [] from rfl] at HPP
          clear he1
          by_cases hlong:1600<([]:List Nat).length
          · first
            | (exfalso;simp at hlong;done)
            | (have HS' := HPP.out
               rw [if_neg (by omega)] at HS'
               obtain⟨rfl,rfl⟩:=Prod.mk.inj HS'
               clear HS' HPP
               go_wp2
               refine bodyPost_ret (v:=.tuple #[.string (mks []),.int .i64 6]) (by simp [results,Tryz.results52,go_sem];rfl) rfl ?_
               exact⟨rfl,hBW⟩)
          · have HS':=HPP.out
            rw [if_pos (by first | omega | simp)] at HS'
            obtain⟨hS,hE⟩:=Prod.mk.inj HS'
            have HSS:=Lib.hid hS
            have HEE:=Lib.hid hE
            clear HS' HPP hS hE
            go_upto_region 19 with(fail)
            go_wp2
            go_loopw [59] (fun iv w2 => ∃ (k : Nat) (A : Option Addr) (n c : Nat), iv = .int .i64 k ∧ k ≤ ([] : List Nat).length ∧ Hid (n = (dg (hor bs digV (([] : List Nat).take k))).length) ∧ n ≤ c ∧ n ≤ 3 * k ∧ Rd w2 A (B8 (dg (hor bs digV (([] : List Nat).take k)))) ∧
                (∀ad,A=some ad→ad.block≠w.heap.size)∧Hid (Arr w2 w.heap.size 121 [.bool false,.slice A n c])∧Below w.heap.size w w2∧w.heap.size<w2.heap.size) (fun iv _=>([]:List Nat).length - (intOf iv).toNat)
            case atStart=>exact⟨0,none,0,0,rfl,Nat.zero_le _,by show _=_;simp [hor,horF,dg_zero],Nat.le_refl _,Nat.le_refl _,by simp [hor,horF,dg_zero];exact Rd.nil,(fun _ h=>by cases h),HX,hBW,hsW⟩
            case round=>
              clear HX hBW hsW
              obtain⟨k,A,n,c,rfl,hk,hn2,hnc,hn3,hr,hA,hx,hb,hsz⟩:=hrel
              have h3:=hb.size
              by_cases hlt:k<([]:List Nat).length
              · first
                | (exfalso;simp at hlt;done)
                | (obtain ⟨d, hd⟩ : ∃ d, ([] : List Nat)[k]? = some d := ⟨_, List.getElem?_eq_getElem hlt⟩
                   have hdb:=hl1.get hd
                   have hgk:=get_mks hd hdb (by rw [size_mks];exact hlt)
                   have hst:=hor_step (b:=bs) (f:=digV) hd
                   have HST:=Lib.hid hst
                   clear hst
                   have hdl9:=digV_le d
                   have x1:wr.drew.cell? ⟨w.heap.size,1,none⟩=some (.slice A n c):=hx.out.cell' (i:=1) rfl
                   have HXd:Hid (Arr wr.drew w.heap.size 121 [.bool false,.slice A n c]):=hx
                   have hsm:=small_any A n c (hor bs digV (([]:List Nat).take k)) bs (digV d:Nat) wr.drew hn2 hr.drew hnc (by omega) (by omega) (by omega) (by omega) (by omega)
                   rw [Int.toNat_natCast,Int.toNat_natCast] at hsm
                   have HSM:=Lib.hid hsm
                   clear hsm hd
                   go_upto_region 22 with(fail)
                   refine wp_region_still_tail 7 (by kernel_rfl) (by kernel_rfl) ?_
                   simp only [List.take_succ_cons,List.take_zero,List.drop_succ_cons,List.drop_zero]
                   still_step
                   still_step
                   still_step
                   still_step
                   still_step
                   still_step
                   still_call (digit_still d hdb _)
                   refine wpStill_nil ?_
                   change wpList _ _ _ _ _ wr.drew
                   go_wp2_with (go_at_call 73;go_loud (refine HSM.out.mono ?_;rintro e w5 ⟨A5,n5,c5,rfl,hn5,hc5,hr5,hf5,hb5⟩;have x1':=(HXd.out.keep hb5).cell' (i:=1) rfl;have xf1':=(HXd.out.keep hb5).frozen 1))
                   have h5:=hb5.size
                   have hz5:wr.heap.size≤w5.heap.size:=h5
                   have hf5':From wr.heap.size A5:=hf5
                   have hX6:=(HXd.out.keep hb5).store 1 (.slice A5 n5 c5)
                   have hr6:=hr5.setCell (p:=⟨w.heap.size,1,none⟩) (.slice A5 n5 c5) (fun ad e=>by have:=hf5' ad e;dsimp only;omega)
                   have hb6:=(hb.drew.trans (hb5.mono h3)).setCell (p:=⟨w.heap.size,1,none⟩) (Nat.le_refl _) (.slice A5 n5 c5)
                   rw [length_B8,←HST.out] at hn5
                   rw [←HST.out] at hr6
                   have hdl:=hor_dg_len (b:=bs) (f:=digV) (l:=([]:List Nat).take (k+1)) (fun c hc=>hall c (List.mem_of_mem_take hc)) (by omega)
                   have hn5':=hn5.out
                   rw [List.length_take] at hdl
                   go_roundw
                   case rel=>exact⟨k+1,A5,n5,c5,by go_num,hlt,hn5,hc5,by omega,hr6,fun ad e=>by have:=hf5' ad e;omega,hX6,hb6,by rw [World.size_setCell];omega⟩
                   case measure=>simp [intOf];omega)
              · obtain rfl:k=([]:List Nat).length:=by omega
                have x0:=hx.out.cell' (i:=0) rfl
                have x1:=hx.out.cell' (i:=1) rfl
                have xf0:=hx.out.frozen 0
                rw [List.take_length] at hn2 hr
                have hnL:([]:List Nat).length≤1600:=by first | omega | simp
                generalize hor bs digV ([]:List Nat)=m at *
                go_wp2_with (go_at_call 74;go_loud (refine(text2_any _ A _ _ _ _ hn2 hr (by omega)).mono ?_;rintro e w6 ⟨rfl,hb6⟩))
                refine bodyPost_ret (v:=.tuple #[.string (mks _),.int .i64 _]) (by simp [results,Tryz.results52,go_sem];exact⟨rfl,rfl⟩) rfl ?_
                rw [←HSS.out,←HEE.out]
                exact⟨rfl,hb.trans (hb6.mono (by omega))⟩
set_option maxRecDepth 8000 in
set_option maxHeartbeats 4000000 in
theorem parse_M (b : List Nat) (bs : Nat) (w : World) (hl : By b) (hb2 : 2 ≤ bs) (hb16 : bs ≤ 16) (hk : knownB bs = true) (hlen : b.length < 4294967296) (hne : b ≠ [])  :
    Calls Tryz.prog 52 #[.string (mks (45 :: b)),.int .i64 (bs:Int)] w fun e w'=>e=.returned (.tuple #[.string (mks (pB true bs b).1),.int .i64 (pB true bs b).2])∧Below w.heap.size w w':=by
  generalize hP:pB true bs b=pr
  have HP:=Lib.hid hP
  clear hP
  obtain⟨sres,eres⟩:=pr
  dsimp only
  have HK:=Lib.hid hk
  clear hk
  have hb0:0<b.length:=List.length_pos_iff.2 hne
  have hie:b.isEmpty=false:=by cases b <;> simp_all
  obtain⟨c0,hc0⟩:∃c0,b[0]? = some c0:=⟨_,List.getElem?_eq_getElem hb0⟩
  skip
  have hgz:=get_mks (l:=45 :: b) (i:=0) (c:=45) rfl (by omega) (by rw [size_mks];simp)
  clear hc0
  go_enter Tryz.func52,Tryz.ntmps52
  go_upto_region 9 with(go_at_call 71;go_loud (refine(known_any _ _).mono ?_;rw [HK.out];rintro e w6 ⟨rfl,rfl⟩))
  have HX:Hid (Arr (w.alloc (.cells #[.bool true,.slice none 0 0] 121)) w.heap.size 121 [.bool true,.slice none 0 0]):=Arr.new w 121 [.bool true,.slice none 0 0]
  have hBW:Below w.heap.size w (w.alloc (.cells #[.bool true,.slice none 0 0] 121)):=(Below.refl _ _).alloc (Nat.le_refl _) _
  have hsW:w.heap.size<(w.alloc (.cells #[.bool true,.slice none 0 0] 121)).heap.size:=by simp
  clear hgz
  generalize (w.alloc (.cells #[.bool true,.slice none 0 0] 121))=W at *
  go_wp2
  go_loopw [35] (fun iv wr=>∃k:Nat,iv=.int .i64 k∧k≤b.length∧(∀c∈b.take k,digV c<bs)∧W=wr) (fun iv _=>b.length - (intOf iv).toNat)
  case atStart=>exact⟨0,rfl,Nat.zero_le _,by simp,rfl⟩
  case round=>
    obtain⟨k,rfl,hk,hall,rfl⟩:=hrel
    by_cases hlt:k<b.length
    · obtain⟨d,hd⟩:∃d,b[k]? = some d:=⟨_,List.getElem?_eq_getElem hlt⟩
      have hdb:=hl.get hd
      have hgk:=get_mks hd hdb (by rw [size_mks];exact hlt)
      have hte:b.take (k+1)=b.take k ++ [d]:=by
        have:=List.getElem?_eq_some_iff.1 hd
        rw [List.take_succ_eq_append_getElem this.1,this.2]
      have HTE:=Lib.hid hte
      clear hte
      by_cases hdd:digV d<bs
      · clear hd
        go_wp2_with (go_at_call 72;go_loud (refine(digit_still d hdb _).mono ?_;rintro e w6 ⟨rfl,rfl⟩))
        go_roundw
        case rel=>
          refine⟨k+1,by go_num,hlt,?_,trivial⟩
          rw [HTE.out]
          intro c hc
          rcases List.mem_append.1 hc with hc | hc
          · exact hall c hc
          · rw [List.mem_singleton.1 hc];exact hdd
        case measure=>simp [intOf];omega
      · have hPN : pB true bs b = ([], 3) := by
          unfold pB
          rw [if_neg]
          intro h
          exact hdd (of_decide_eq_true (List.all_eq_true.1 h d (List.mem_of_getElem? hd)))
        have HP2:=HP.out
        rw [hPN] at HP2
        obtain⟨rfl,rfl⟩:=Prod.mk.inj HP2
        clear hPN HP2 hd
        go_wp2_with (go_at_call 72;go_loud (refine(digit_still d hdb _).mono ?_;rintro e w6 ⟨rfl,rfl⟩))
        refine bodyPost_ret (v:=.tuple #[.string (mks []),.int .i64 3]) (by simp [results,Tryz.results52,go_sem];rfl) rfl ?_
        exact⟨rfl,hBW⟩
    · obtain rfl:k=b.length:=by omega
      rw [List.take_length] at hall
      have hPA:pB true bs b=(if (lead 48 b).length≤1600 then (tS (true,hor bs digV (lead 48 b)),tE (true,hor bs digV (lead 48 b))) else ([],6)):=by
        unfold pB
        rw [if_pos (List.all_eq_true.2 fun c hc=>decide_eq_true (hall c hc))]
      have HP2:=HP.out
      rw [hPA] at HP2
      have HPP:=Lib.hid HP2
      clear hPA HP2 HP hlt hk
      go_upto_region 15 with(fail)
      go_loopw [0] (fun sv wr=>∃l1:List Nat,sv=.string (mks l1)∧Hid (lead 48 l1=lead 48 b)∧By l1∧(∀c∈l1,digV c<bs)∧l1.length<4294967296∧W=wr) (fun sv _=>match sv with | .string s=>s.size | _=>0)
      case atStart=>exact⟨b,rfl,rfl,hl,hall,hlen,rfl⟩
      case round=>
        clear hall hlen hl
        obtain⟨l1,rfl,he1,hl1,hall,hn1,rfl⟩:=hrel
        rcases lead_split 48 l1 with rfl | ⟨t,rfl⟩ | ⟨c,hc,h0,hll⟩
        rotate_left
        · have hg0:=get_mks (l:=48 :: t) (i:=0) rfl (by omega) (by rw [size_mks];simp)
          go_wp2
          go_roundw
          case rel=>exact⟨t,rfl,by show _=_;rw [←he1.out,lead_eq],hl1.tail,fun c hc=>hall c (List.mem_cons_of_mem _ hc),by simp at hn1;omega,trivial⟩
          case measure=>show(mks t).size<(mks (48 :: t)).size;rw [size_mks,size_mks];simp
        · have hcb:=hl1.get hc
          have hL0:0<l1.length:=(List.getElem?_eq_some_iff.1 hc).1
          have hg0:=get_mks hc hcb (by rw [size_mks];exact hL0)
          have h0':((c:Int) == 48)=false:=by simp;omega
          have hne1:¬l1 = []:=by intro h;rw [h] at hL0;simp at hL0
          have hie1:l1.isEmpty=false:=by cases l1 <;> simp_all
          rw [←he1.out,hll] at HPP
          clear h0 he1 hll hc
          by_cases hlong:1600<(l1:List Nat).length
          · first
            | (skip;done)
            | (have HS' := HPP.out
               rw [if_neg (by omega)] at HS'
               obtain⟨rfl,rfl⟩:=Prod.mk.inj HS'
               clear HS' HPP
               go_wp2
               refine bodyPost_ret (v:=.tuple #[.string (mks []),.int .i64 6]) (by simp [results,Tryz.results52,go_sem];rfl) rfl ?_
               exact⟨rfl,hBW⟩)
          · have HS':=HPP.out
            rw [if_pos (by first | omega | simp)] at HS'
            obtain⟨hS,hE⟩:=Prod.mk.inj HS'
            have HSS:=Lib.hid hS
            have HEE:=Lib.hid hE
            clear HS' HPP hS hE
            go_upto_region 19 with(fail)
            go_wp2
            go_loopw [59] (fun iv w2 => ∃ (k : Nat) (A : Option Addr) (n c : Nat), iv = .int .i64 k ∧ k ≤ (l1 : List Nat).length ∧ Hid (n = (dg (hor bs digV ((l1 : List Nat).take k))).length) ∧ n ≤ c ∧ n ≤ 3 * k ∧ Rd w2 A (B8 (dg (hor bs digV ((l1 : List Nat).take k)))) ∧
                (∀ad,A=some ad→ad.block≠w.heap.size)∧Hid (Arr w2 w.heap.size 121 [.bool true,.slice A n c])∧Below w.heap.size w w2∧w.heap.size<w2.heap.size) (fun iv _=>(l1:List Nat).length - (intOf iv).toNat)
            case atStart=>exact⟨0,none,0,0,rfl,Nat.zero_le _,by show _=_;simp [hor,horF,dg_zero],Nat.le_refl _,Nat.le_refl _,by simp [hor,horF,dg_zero];exact Rd.nil,(fun _ h=>by cases h),HX,hBW,hsW⟩
            case round=>
              clear HX hBW hsW
              obtain⟨k,A,n,c,rfl,hk,hn2,hnc,hn3,hr,hA,hx,hb,hsz⟩:=hrel
              have h3:=hb.size
              by_cases hlt:k<(l1:List Nat).length
              · first
                | (exfalso;simp at hlt;done)
                | (obtain ⟨d, hd⟩ : ∃ d, (l1 : List Nat)[k]? = some d := ⟨_, List.getElem?_eq_getElem hlt⟩
                   have hdb:=hl1.get hd
                   have hgk:=get_mks hd hdb (by rw [size_mks];exact hlt)
                   have hst:=hor_step (b:=bs) (f:=digV) hd
                   have HST:=Lib.hid hst
                   clear hst
                   have hdl9:=digV_le d
                   have x1:wr.drew.cell? ⟨w.heap.size,1,none⟩=some (.slice A n c):=hx.out.cell' (i:=1) rfl
                   have HXd:Hid (Arr wr.drew w.heap.size 121 [.bool true,.slice A n c]):=hx
                   have hsm:=small_any A n c (hor bs digV ((l1:List Nat).take k)) bs (digV d:Nat) wr.drew hn2 hr.drew hnc (by omega) (by omega) (by omega) (by omega) (by omega)
                   rw [Int.toNat_natCast,Int.toNat_natCast] at hsm
                   have HSM:=Lib.hid hsm
                   clear hsm hd
                   go_upto_region 22 with(fail)
                   refine wp_region_still_tail 7 (by kernel_rfl) (by kernel_rfl) ?_
                   simp only [List.take_succ_cons,List.take_zero,List.drop_succ_cons,List.drop_zero]
                   still_step
                   still_step
                   still_step
                   still_step
                   still_step
                   still_step
                   still_call (digit_still d hdb _)
                   refine wpStill_nil ?_
                   change wpList _ _ _ _ _ wr.drew
                   go_wp2_with (go_at_call 73;go_loud (refine HSM.out.mono ?_;rintro e w5 ⟨A5,n5,c5,rfl,hn5,hc5,hr5,hf5,hb5⟩;have x1':=(HXd.out.keep hb5).cell' (i:=1) rfl;have xf1':=(HXd.out.keep hb5).frozen 1))
                   have h5:=hb5.size
                   have hz5:wr.heap.size≤w5.heap.size:=h5
                   have hf5':From wr.heap.size A5:=hf5
                   have hX6:=(HXd.out.keep hb5).store 1 (.slice A5 n5 c5)
                   have hr6:=hr5.setCell (p:=⟨w.heap.size,1,none⟩) (.slice A5 n5 c5) (fun ad e=>by have:=hf5' ad e;dsimp only;omega)
                   have hb6:=(hb.drew.trans (hb5.mono h3)).setCell (p:=⟨w.heap.size,1,none⟩) (Nat.le_refl _) (.slice A5 n5 c5)
                   rw [length_B8,←HST.out] at hn5
                   rw [←HST.out] at hr6
                   have hdl:=hor_dg_len (b:=bs) (f:=digV) (l:=(l1:List Nat).take (k+1)) (fun c hc=>hall c (List.mem_of_mem_take hc)) (by omega)
                   have hn5':=hn5.out
                   rw [List.length_take] at hdl
                   go_roundw
                   case rel=>exact⟨k+1,A5,n5,c5,by go_num,hlt,hn5,hc5,by omega,hr6,fun ad e=>by have:=hf5' ad e;omega,hX6,hb6,by rw [World.size_setCell];omega⟩
                   case measure=>simp [intOf];omega)
              · obtain rfl:k=(l1:List Nat).length:=by omega
                have x0:=hx.out.cell' (i:=0) rfl
                have x1:=hx.out.cell' (i:=1) rfl
                have xf0:=hx.out.frozen 0
                rw [List.take_length] at hn2 hr
                have hnL:(l1:List Nat).length≤1600:=by first | omega | simp
                generalize hor bs digV (l1:List Nat)=m at *
                go_wp2_with (go_at_call 74;go_loud (refine(text2_any _ A _ _ _ _ hn2 hr (by omega)).mono ?_;rintro e w6 ⟨rfl,hb6⟩))
                refine bodyPost_ret (v:=.tuple #[.string (mks _),.int .i64 _]) (by simp [results,Tryz.results52,go_sem];exact⟨rfl,rfl⟩) rfl ?_
                rw [←HSS.out,←HEE.out]
                exact⟨rfl,hb.trans (hb6.mono (by omega))⟩
        · skip
          skip
          skip
          skip
          skip
          skip
          rw [←he1.out,show lead 48 [] = [] from rfl] at HPP
          clear he1
          by_cases hlong:1600<([]:List Nat).length
          · first
            | (exfalso;simp at hlong;done)
            | (have HS' := HPP.out
               rw [if_neg (by omega)] at HS'
               obtain⟨rfl,rfl⟩:=Prod.mk.inj HS'
               clear HS' HPP
               go_wp2
               refine bodyPost_ret (v:=.tuple #[.string (mks []),.int .i64 6]) (by simp [results,Tryz.results52,go_sem];rfl) rfl ?_
               exact⟨rfl,hBW⟩)
          · have HS':=HPP.out
            rw [if_pos (by first | omega | simp)] at HS'
            obtain⟨hS,hE⟩:=Prod.mk.inj HS'
            have HSS:=Lib.hid hS
            have HEE:=Lib.hid hE
            clear HS' HPP hS hE
            go_upto_region 19 with(fail)
            go_wp2
            go_loopw [59] (fun iv w2 => ∃ (k : Nat) (A : Option Addr) (n c : Nat), iv = .int .i64 k ∧ k ≤ ([] : List Nat).length ∧ Hid (n = (dg (hor bs digV (([] : List Nat).take k))).length) ∧ n ≤ c ∧ n ≤ 3 * k ∧ Rd w2 A (B8 (dg (hor bs digV (([] : List Nat).take k)))) ∧
                (∀ad,A=some ad→ad.block≠w.heap.size)∧Hid (Arr w2 w.heap.size 121 [.bool true,.slice A n c])∧Below w.heap.size w w2∧w.heap.size<w2.heap.size) (fun iv _=>([]:List Nat).length - (intOf iv).toNat)
            case atStart=>exact⟨0,none,0,0,rfl,Nat.zero_le _,by show _=_;simp [hor,horF,dg_zero],Nat.le_refl _,Nat.le_refl _,by simp [hor,horF,dg_zero];exact Rd.nil,(fun _ h=>by cases h),HX,hBW,hsW⟩
            case round=>
              clear HX hBW hsW
              obtain⟨k,A,n,c,rfl,hk,hn2,hnc,hn3,hr,hA,hx,hb,hsz⟩:=hrel
              have h3:=hb.size
              by_cases hlt:k<([]:List Nat).length
              · first
                | (exfalso;simp at hlt;done)
                | (obtain ⟨d, hd⟩ : ∃ d, ([] : List Nat)[k]? = some d := ⟨_, List.getElem?_eq_getElem hlt⟩
                   have hdb:=hl1.get hd
                   have hgk:=get_mks hd hdb (by rw [size_mks];exact hlt)
                   have hst:=hor_step (b:=bs) (f:=digV) hd
                   have HST:=Lib.hid hst
                   clear hst
                   have hdl9:=digV_le d
                   have x1:wr.drew.cell? ⟨w.heap.size,1,none⟩=some (.slice A n c):=hx.out.cell' (i:=1) rfl
                   have HXd:Hid (Arr wr.drew w.heap.size 121 [.bool true,.slice A n c]):=hx
                   have hsm:=small_any A n c (hor bs digV (([]:List Nat).take k)) bs (digV d:Nat) wr.drew hn2 hr.drew hnc (by omega) (by omega) (by omega) (by omega) (by omega)
                   rw [Int.toNat_natCast,Int.toNat_natCast] at hsm
                   have HSM:=Lib.hid hsm
                   clear hsm hd
                   go_upto_region 22 with(fail)
                   refine wp_region_still_tail 7 (by kernel_rfl) (by kernel_rfl) ?_
                   simp only [List.take_succ_cons,List.take_zero,List.drop_succ_cons,List.drop_zero]
                   still_step
                   still_step
                   still_step
                   still_step
                   still_step
                   still_step
                   still_call (digit_still d hdb _)
                   refine wpStill_nil ?_
                   change wpList _ _ _ _ _ wr.drew
                   go_wp2_with (go_at_call 73;go_loud (refine HSM.out.mono ?_;rintro e w5 ⟨A5,n5,c5,rfl,hn5,hc5,hr5,hf5,hb5⟩;have x1':=(HXd.out.keep hb5).cell' (i:=1) rfl;have xf1':=(HXd.out.keep hb5).frozen 1))
                   have h5:=hb5.size
                   have hz5:wr.heap.size≤w5.heap.size:=h5
                   have hf5':From wr.heap.size A5:=hf5
                   have hX6:=(HXd.out.keep hb5).store 1 (.slice A5 n5 c5)
                   have hr6:=hr5.setCell (p:=⟨w.heap.size,1,none⟩) (.slice A5 n5 c5) (fun ad e=>by have:=hf5' ad e;dsimp only;omega)
                   have hb6:=(hb.drew.trans (hb5.mono h3)).setCell (p:=⟨w.heap.size,1,none⟩) (Nat.le_refl _) (.slice A5 n5 c5)
                   rw [length_B8,←HST.out] at hn5
                   rw [←HST.out] at hr6
                   have hdl:=hor_dg_len (b:=bs) (f:=digV) (l:=([]:List Nat).take (k+1)) (fun c hc=>hall c (List.mem_of_mem_take hc)) (by omega)
                   have hn5':=hn5.out
                   rw [List.length_take] at hdl
                   go_roundw
                   case rel=>exact⟨k+1,A5,n5,c5,by go_num,hlt,hn5,hc5,by omega,hr6,fun ad e=>by have:=hf5' ad e;omega,hX6,hb6,by rw [World.size_setCell];omega⟩
                   case measure=>simp [intOf];omega)
              · obtain rfl:k=([]:List Nat).length:=by omega
                have x0:=hx.out.cell' (i:=0) rfl
                have x1:=hx.out.cell' (i:=1) rfl
                have xf0:=hx.out.frozen 0
                rw [List.take_length] at hn2 hr
                have hnL:([]:List Nat).length≤1600:=by first | omega | simp
                generalize hor bs digV ([]:List Nat)=m at *
                go_wp2_with (go_at_call 74;go_loud (refine(text2_any _ A _ _ _ _ hn2 hr (by omega)).mono ?_;rintro e w6 ⟨rfl,hb6⟩))
                refine bodyPost_ret (v:=.tuple #[.string (mks _),.int .i64 _]) (by simp [results,Tryz.results52,go_sem];exact⟨rfl,rfl⟩) rfl ?_
                rw [←HSS.out,←HEE.out]
                exact⟨rfl,hb.trans (hb6.mono (by omega))⟩
set_option maxRecDepth 8000 in
set_option maxHeartbeats 4000000 in
theorem parse_N (b : List Nat) (bs : Nat) (w : World) (hl : By b) (hb2 : 2 ≤ bs) (hb16 : bs ≤ 16) (hk : knownB bs = true) (hlen : b.length < 4294967296) (hne : b ≠ []) (h43 : b[0]? ≠ some 43) (h45 : b[0]? ≠ some 45) :
    Calls Tryz.prog 52 #[.string (mks (b)),.int .i64 (bs:Int)] w fun e w'=>e=.returned (.tuple #[.string (mks (pB false bs b).1),.int .i64 (pB false bs b).2])∧Below w.heap.size w w':=by
  generalize hP:pB false bs b=pr
  have HP:=Lib.hid hP
  clear hP
  obtain⟨sres,eres⟩:=pr
  dsimp only
  have HK:=Lib.hid hk
  clear hk
  have hb0:0<b.length:=List.length_pos_iff.2 hne
  have hie:b.isEmpty=false:=by cases b <;> simp_all
  obtain⟨c0,hc0⟩:∃c0,b[0]? = some c0:=⟨_,List.getElem?_eq_getElem hb0⟩
  (have hgz:=get_mks hc0 (hl.get hc0) (by rw [size_mks];exact hb0);have h43':((c0:Int) == 43)=false:=(by rw [beq_eq_false_iff_ne];intro h;exact h43 (by rw [hc0,show c0=43 by omega]));have h45':((c0:Int) == 45)=false:=(by rw [beq_eq_false_iff_ne];intro h;exact h45 (by rw [hc0,show c0=45 by omega])))
  skip
  clear hc0
  go_enter Tryz.func52,Tryz.ntmps52
  go_upto_region 9 with(go_at_call 71;go_loud (refine(known_any _ _).mono ?_;rw [HK.out];rintro e w6 ⟨rfl,rfl⟩))
  have HX:Hid (Arr (w.alloc (.cells #[.bool false,.slice none 0 0] 121)) w.heap.size 121 [.bool false,.slice none 0 0]):=Arr.new w 121 [.bool false,.slice none 0 0]
  have hBW:Below w.heap.size w (w.alloc (.cells #[.bool false,.slice none 0 0] 121)):=(Below.refl _ _).alloc (Nat.le_refl _) _
  have hsW:w.heap.size<(w.alloc (.cells #[.bool false,.slice none 0 0] 121)).heap.size:=by simp
  clear hgz
  generalize (w.alloc (.cells #[.bool false,.slice none 0 0] 121))=W at *
  go_wp2
  go_loopw [35] (fun iv wr=>∃k:Nat,iv=.int .i64 k∧k≤b.length∧(∀c∈b.take k,digV c<bs)∧W=wr) (fun iv _=>b.length - (intOf iv).toNat)
  case atStart=>exact⟨0,rfl,Nat.zero_le _,by simp,rfl⟩
  case round=>
    obtain⟨k,rfl,hk,hall,rfl⟩:=hrel
    by_cases hlt:k<b.length
    · obtain⟨d,hd⟩:∃d,b[k]? = some d:=⟨_,List.getElem?_eq_getElem hlt⟩
      have hdb:=hl.get hd
      have hgk:=get_mks hd hdb (by rw [size_mks];exact hlt)
      have hte:b.take (k+1)=b.take k ++ [d]:=by
        have:=List.getElem?_eq_some_iff.1 hd
        rw [List.take_succ_eq_append_getElem this.1,this.2]
      have HTE:=Lib.hid hte
      clear hte
      by_cases hdd:digV d<bs
      · clear hd
        go_wp2_with (go_at_call 72;go_loud (refine(digit_still d hdb _).mono ?_;rintro e w6 ⟨rfl,rfl⟩))
        go_roundw
        case rel=>
          refine⟨k+1,by go_num,hlt,?_,trivial⟩
          rw [HTE.out]
          intro c hc
          rcases List.mem_append.1 hc with hc | hc
          · exact hall c hc
          · rw [List.mem_singleton.1 hc];exact hdd
        case measure=>simp [intOf];omega
      · have hPN : pB false bs b = ([], 3) := by
          unfold pB
          rw [if_neg]
          intro h
          exact hdd (of_decide_eq_true (List.all_eq_true.1 h d (List.mem_of_getElem? hd)))
        have HP2:=HP.out
        rw [hPN] at HP2
        obtain⟨rfl,rfl⟩:=Prod.mk.inj HP2
        clear hPN HP2 hd
        go_wp2_with (go_at_call 72;go_loud (refine(digit_still d hdb _).mono ?_;rintro e w6 ⟨rfl,rfl⟩))
        refine bodyPost_ret (v:=.tuple #[.string (mks []),.int .i64 3]) (by simp [results,Tryz.results52,go_sem];rfl) rfl ?_
        exact⟨rfl,hBW⟩
    · obtain rfl:k=b.length:=by omega
      rw [List.take_length] at hall
      have hPA:pB false bs b=(if (lead 48 b).length≤1600 then (tS (false,hor bs digV (lead 48 b)),tE (false,hor bs digV (lead 48 b))) else ([],6)):=by
        unfold pB
        rw [if_pos (List.all_eq_true.2 fun c hc=>decide_eq_true (hall c hc))]
      have HP2:=HP.out
      rw [hPA] at HP2
      have HPP:=Lib.hid HP2
      clear hPA HP2 HP hlt hk
      go_upto_region 15 with(fail)
      go_loopw [0] (fun sv wr=>∃l1:List Nat,sv=.string (mks l1)∧Hid (lead 48 l1=lead 48 b)∧By l1∧(∀c∈l1,digV c<bs)∧l1.length<4294967296∧W=wr) (fun sv _=>match sv with | .string s=>s.size | _=>0)
      case atStart=>exact⟨b,rfl,rfl,hl,hall,hlen,rfl⟩
      case round=>
        clear hall hlen hl
        obtain⟨l1,rfl,he1,hl1,hall,hn1,rfl⟩:=hrel
        rcases lead_split 48 l1 with rfl | ⟨t,rfl⟩ | ⟨c,hc,h0,hll⟩
        rotate_left
        · have hg0:=get_mks (l:=48 :: t) (i:=0) rfl (by omega) (by rw [size_mks];simp)
          go_wp2
          go_roundw
          case rel=>exact⟨t,rfl,by show _=_;rw [←he1.out,lead_eq],hl1.tail,fun c hc=>hall c (List.mem_cons_of_mem _ hc),by simp at hn1;omega,trivial⟩
          case measure=>show(mks t).size<(mks (48 :: t)).size;rw [size_mks,size_mks];simp
        · have hcb:=hl1.get hc
          have hL0:0<l1.length:=(List.getElem?_eq_some_iff.1 hc).1
          have hg0:=get_mks hc hcb (by rw [size_mks];exact hL0)
          have h0':((c:Int) == 48)=false:=by simp;omega
          have hne1:¬l1 = []:=by intro h;rw [h] at hL0;simp at hL0
          have hie1:l1.isEmpty=false:=by cases l1 <;> simp_all
          rw [←he1.out,hll] at HPP
          clear h0 he1 hll hc
          by_cases hlong:1600<(l1:List Nat).length
          · first
            | (skip;done)
            | (have HS' := HPP.out
               rw [if_neg (by omega)] at HS'
               obtain⟨rfl,rfl⟩:=Prod.mk.inj HS'
               clear HS' HPP
               go_wp2
               refine bodyPost_ret (v:=.tuple #[.string (mks []),.int .i64 6]) (by simp [results,Tryz.results52,go_sem];rfl) rfl ?_
               exact⟨rfl,hBW⟩)
          · have HS':=HPP.out
            rw [if_pos (by first | omega | simp)] at HS'
            obtain⟨hS,hE⟩:=Prod.mk.inj HS'
            have HSS:=Lib.hid hS
            have HEE:=Lib.hid hE
            clear HS' HPP hS hE
            go_upto_region 19 with(fail)
            go_wp2
            go_loopw [59] (fun iv w2 => ∃ (k : Nat) (A : Option Addr) (n c : Nat), iv = .int .i64 k ∧ k ≤ (l1 : List Nat).length ∧ Hid (n = (dg (hor bs digV ((l1 : List Nat).take k))).length) ∧ n ≤ c ∧ n ≤ 3 * k ∧ Rd w2 A (B8 (dg (hor bs digV ((l1 : List Nat).take k)))) ∧
                (∀ad,A=some ad→ad.block≠w.heap.size)∧Hid (Arr w2 w.heap.size 121 [.bool false,.slice A n c])∧Below w.heap.size w w2∧w.heap.size<w2.heap.size) (fun iv _=>(l1:List Nat).length - (intOf iv).toNat)
            case atStart=>exact⟨0,none,0,0,rfl,Nat.zero_le _,by show _=_;simp [hor,horF,dg_zero],Nat.le_refl _,Nat.le_refl _,by simp [hor,horF,dg_zero];exact Rd.nil,(fun _ h=>by cases h),HX,hBW,hsW⟩
            case round=>
              clear HX hBW hsW
              obtain⟨k,A,n,c,rfl,hk,hn2,hnc,hn3,hr,hA,hx,hb,hsz⟩:=hrel
              have h3:=hb.size
              by_cases hlt:k<(l1:List Nat).length
              · first
                | (exfalso;simp at hlt;done)
                | (obtain ⟨d, hd⟩ : ∃ d, (l1 : List Nat)[k]? = some d := ⟨_, List.getElem?_eq_getElem hlt⟩
                   have hdb:=hl1.get hd
                   have hgk:=get_mks hd hdb (by rw [size_mks];exact hlt)
                   have hst:=hor_step (b:=bs) (f:=digV) hd
                   have HST:=Lib.hid hst
                   clear hst
                   have hdl9:=digV_le d
                   have x1:wr.drew.cell? ⟨w.heap.size,1,none⟩=some (.slice A n c):=hx.out.cell' (i:=1) rfl
                   have HXd:Hid (Arr wr.drew w.heap.size 121 [.bool false,.slice A n c]):=hx
                   have hsm:=small_any A n c (hor bs digV ((l1:List Nat).take k)) bs (digV d:Nat) wr.drew hn2 hr.drew hnc (by omega) (by omega) (by omega) (by omega) (by omega)
                   rw [Int.toNat_natCast,Int.toNat_natCast] at hsm
                   have HSM:=Lib.hid hsm
                   clear hsm hd
                   go_upto_region 22 with(fail)
                   refine wp_region_still_tail 7 (by kernel_rfl) (by kernel_rfl) ?_
                   simp only [List.take_succ_cons,List.take_zero,List.drop_succ_cons,List.drop_zero]
                   still_step
                   still_step
                   still_step
                   still_step
                   still_step
                   still_step
                   still_call (digit_still d hdb _)
                   refine wpStill_nil ?_
                   change wpList _ _ _ _ _ wr.drew
                   go_wp2_with (go_at_call 73;go_loud (refine HSM.out.mono ?_;rintro e w5 ⟨A5,n5,c5,rfl,hn5,hc5,hr5,hf5,hb5⟩;have x1':=(HXd.out.keep hb5).cell' (i:=1) rfl;have xf1':=(HXd.out.keep hb5).frozen 1))
                   have h5:=hb5.size
                   have hz5:wr.heap.size≤w5.heap.size:=h5
                   have hf5':From wr.heap.size A5:=hf5
                   have hX6:=(HXd.out.keep hb5).store 1 (.slice A5 n5 c5)
                   have hr6:=hr5.setCell (p:=⟨w.heap.size,1,none⟩) (.slice A5 n5 c5) (fun ad e=>by have:=hf5' ad e;dsimp only;omega)
                   have hb6:=(hb.drew.trans (hb5.mono h3)).setCell (p:=⟨w.heap.size,1,none⟩) (Nat.le_refl _) (.slice A5 n5 c5)
                   rw [length_B8,←HST.out] at hn5
                   rw [←HST.out] at hr6
                   have hdl:=hor_dg_len (b:=bs) (f:=digV) (l:=(l1:List Nat).take (k+1)) (fun c hc=>hall c (List.mem_of_mem_take hc)) (by omega)
                   have hn5':=hn5.out
                   rw [List.length_take] at hdl
                   go_roundw
                   case rel=>exact⟨k+1,A5,n5,c5,by go_num,hlt,hn5,hc5,by omega,hr6,fun ad e=>by have:=hf5' ad e;omega,hX6,hb6,by rw [World.size_setCell];omega⟩
                   case measure=>simp [intOf];omega)
              · obtain rfl:k=(l1:List Nat).length:=by omega
                have x0:=hx.out.cell' (i:=0) rfl
                have x1:=hx.out.cell' (i:=1) rfl
                have xf0:=hx.out.frozen 0
                rw [List.take_length] at hn2 hr
                have hnL:(l1:List Nat).length≤1600:=by first | omega | simp
                generalize hor bs digV (l1:List Nat)=m at *
                go_wp2_with (go_at_call 74;go_loud (refine(text2_any _ A _ _ _ _ hn2 hr (by omega)).mono ?_;rintro e w6 ⟨rfl,hb6⟩))
                refine bodyPost_ret (v:=.tuple #[.string (mks _),.int .i64 _]) (by simp [results,Tryz.results52,go_sem];exact⟨rfl,rfl⟩) rfl ?_
                rw [←HSS.out,←HEE.out]
                exact⟨rfl,hb.trans (hb6.mono (by omega))⟩
        · skip
          skip
          skip
          skip
          skip
          skip
          rw [←he1.out,show lead 48 [] = [] from rfl] at HPP
          clear he1
          by_cases hlong:1600<([]:List Nat).length
          · first
            | (exfalso;simp at hlong;done)
            | (have HS' := HPP.out
               rw [if_neg (by omega)] at HS'
               obtain⟨rfl,rfl⟩:=Prod.mk.inj HS'
               clear HS' HPP
               go_wp2
               refine bodyPost_ret (v:=.tuple #[.string (mks []),.int .i64 6]) (by simp [results,Tryz.results52,go_sem];rfl) rfl ?_
               exact⟨rfl,hBW⟩)
          · have HS':=HPP.out
            rw [if_pos (by first | omega | simp)] at HS'
            obtain⟨hS,hE⟩:=Prod.mk.inj HS'
            have HSS:=Lib.hid hS
            have HEE:=Lib.hid hE
            clear HS' HPP hS hE
            go_upto_region 19 with(fail)
            go_wp2
            go_loopw [59] (fun iv w2 => ∃ (k : Nat) (A : Option Addr) (n c : Nat), iv = .int .i64 k ∧ k ≤ ([] : List Nat).length ∧ Hid (n = (dg (hor bs digV (([] : List Nat).take k))).length) ∧ n ≤ c ∧ n ≤ 3 * k ∧ Rd w2 A (B8 (dg (hor bs digV (([] : List Nat).take k)))) ∧
                (∀ad,A=some ad→ad.block≠w.heap.size)∧Hid (Arr w2 w.heap.size 121 [.bool false,.slice A n c])∧Below w.heap.size w w2∧w.heap.size<w2.heap.size) (fun iv _=>([]:List Nat).length - (intOf iv).toNat)
            case atStart=>exact⟨0,none,0,0,rfl,Nat.zero_le _,by show _=_;simp [hor,horF,dg_zero],Nat.le_refl _,Nat.le_refl _,by simp [hor,horF,dg_zero];exact Rd.nil,(fun _ h=>by cases h),HX,hBW,hsW⟩
            case round=>
              clear HX hBW hsW
              obtain⟨k,A,n,c,rfl,hk,hn2,hnc,hn3,hr,hA,hx,hb,hsz⟩:=hrel
              have h3:=hb.size
              by_cases hlt:k<([]:List Nat).length
              · first
                | (exfalso;simp at hlt;done)
                | (obtain ⟨d, hd⟩ : ∃ d, ([] : List Nat)[k]? = some d := ⟨_, List.getElem?_eq_getElem hlt⟩
                   have hdb:=hl1.get hd
                   have hgk:=get_mks hd hdb (by rw [size_mks];exact hlt)
                   have hst:=hor_step (b:=bs) (f:=digV) hd
                   have HST:=Lib.hid hst
                   clear hst
                   have hdl9:=digV_le d
                   have x1:wr.drew.cell? ⟨w.heap.size,1,none⟩=some (.slice A n c):=hx.out.cell' (i:=1) rfl
                   have HXd:Hid (Arr wr.drew w.heap.size 121 [.bool false,.slice A n c]):=hx
                   have hsm:=small_any A n c (hor bs digV (([]:List Nat).take k)) bs (digV d:Nat) wr.drew hn2 hr.drew hnc (by omega) (by omega) (by omega) (by omega) (by omega)
                   rw [Int.toNat_natCast,Int.toNat_natCast] at hsm
                   have HSM:=Lib.hid hsm
                   clear hsm hd
                   go_upto_region 22 with(fail)
                   refine wp_region_still_tail 7 (by kernel_rfl) (by kernel_rfl) ?_
                   simp only [List.take_succ_cons,List.take_zero,List.drop_succ_cons,List.drop_zero]
                   still_step
                   still_step
                   still_step
                   still_step
                   still_step
                   still_step
                   still_call (digit_still d hdb _)
                   refine wpStill_nil ?_
                   change wpList _ _ _ _ _ wr.drew
                   go_wp2_with (go_at_call 73;go_loud (refine HSM.out.mono ?_;rintro e w5 ⟨A5,n5,c5,rfl,hn5,hc5,hr5,hf5,hb5⟩;have x1':=(HXd.out.keep hb5).cell' (i:=1) rfl;have xf1':=(HXd.out.keep hb5).frozen 1))
                   have h5:=hb5.size
                   have hz5:wr.heap.size≤w5.heap.size:=h5
                   have hf5':From wr.heap.size A5:=hf5
                   have hX6:=(HXd.out.keep hb5).store 1 (.slice A5 n5 c5)
                   have hr6:=hr5.setCell (p:=⟨w.heap.size,1,none⟩) (.slice A5 n5 c5) (fun ad e=>by have:=hf5' ad e;dsimp only;omega)
                   have hb6:=(hb.drew.trans (hb5.mono h3)).setCell (p:=⟨w.heap.size,1,none⟩) (Nat.le_refl _) (.slice A5 n5 c5)
                   rw [length_B8,←HST.out] at hn5
                   rw [←HST.out] at hr6
                   have hdl:=hor_dg_len (b:=bs) (f:=digV) (l:=([]:List Nat).take (k+1)) (fun c hc=>hall c (List.mem_of_mem_take hc)) (by omega)
                   have hn5':=hn5.out
                   rw [List.length_take] at hdl
                   go_roundw
                   case rel=>exact⟨k+1,A5,n5,c5,by go_num,hlt,hn5,hc5,by omega,hr6,fun ad e=>by have:=hf5' ad e;omega,hX6,hb6,by rw [World.size_setCell];omega⟩
                   case measure=>simp [intOf];omega)
              · obtain rfl:k=([]:List Nat).length:=by omega
                have x0:=hx.out.cell' (i:=0) rfl
                have x1:=hx.out.cell' (i:=1) rfl
                have xf0:=hx.out.frozen 0
                rw [List.take_length] at hn2 hr
                have hnL:([]:List Nat).length≤1600:=by first | omega | simp
                generalize hor bs digV ([]:List Nat)=m at *
                go_wp2_with (go_at_call 74;go_loud (refine(text2_any _ A _ _ _ _ hn2 hr (by omega)).mono ?_;rintro e w6 ⟨rfl,hb6⟩))
                refine bodyPost_ret (v:=.tuple #[.string (mks _),.int .i64 _]) (by simp [results,Tryz.results52,go_sem];exact⟨rfl,rfl⟩) rfl ?_
                rw [←HSS.out,←HEE.out]
                exact⟨rfl,hb.trans (hb6.mono (by omega))⟩
def parB (s:List Nat):Bool×List Nat:=match s with | 43 :: b=>(false,b) | 45 :: b=>(true,b) | b=>(false,b)
def parR (s:List Nat) (base:Int):List Nat×Int:=if knownB base=true then (if (parB s).2 = [] then ([],3) else pB (parB s).1 base.toNat (parB s).2) else ([],1)
set_option maxHeartbeats 2000000 in
theorem parse_nilP (base:Int) (w:World) (hk:knownB base=true):Calls Tryz.prog 52 #[.string (mks [43]),.int .i64 base] w fun e w'=>e=.returned (.tuple #[.string (mks []),.int .i64 3])∧Below w.heap.size w w':=by
  have HK:=Lib.hid hk
  clear hk
  have hg43:=get_mks (l:=[43]) (i:=0) (c:=43) rfl (by omega) (by rw [size_mks];simp)
  have hg45:=get_mks (l:=[45]) (i:=0) (c:=45) rfl (by omega) (by rw [size_mks];simp)
  go_enter Tryz.func52,Tryz.ntmps52
  go_wp2_with (go_at_call 71;go_loud (refine(known_any _ _).mono ?_;rw [HK.out];rintro e w6 ⟨rfl,rfl⟩))
  refine bodyPost_ret (v:=.tuple #[.string (mks []),.int .i64 3]) (by simp [results,Tryz.results52,go_sem];rfl) rfl ?_
  exact⟨rfl,(Below.refl _ _).alloc (Nat.le_refl _) _⟩
set_option maxHeartbeats 2000000 in
theorem parse_nilM (base:Int) (w:World) (hk:knownB base=true):Calls Tryz.prog 52 #[.string (mks [45]),.int .i64 base] w fun e w'=>e=.returned (.tuple #[.string (mks []),.int .i64 3])∧Below w.heap.size w w':=by
  have HK:=Lib.hid hk
  clear hk
  have hg43:=get_mks (l:=[43]) (i:=0) (c:=43) rfl (by omega) (by rw [size_mks];simp)
  have hg45:=get_mks (l:=[45]) (i:=0) (c:=45) rfl (by omega) (by rw [size_mks];simp)
  go_enter Tryz.func52,Tryz.ntmps52
  go_wp2_with (go_at_call 71;go_loud (refine(known_any _ _).mono ?_;rw [HK.out];rintro e w6 ⟨rfl,rfl⟩))
  refine bodyPost_ret (v:=.tuple #[.string (mks []),.int .i64 3]) (by simp [results,Tryz.results52,go_sem];rfl) rfl ?_
  exact⟨rfl,(Below.refl _ _).alloc (Nat.le_refl _) _⟩
set_option maxHeartbeats 2000000 in
theorem parse_nilN (base:Int) (w:World) (hk:knownB base=true):Calls Tryz.prog 52 #[.string (mks []),.int .i64 base] w fun e w'=>e=.returned (.tuple #[.string (mks []),.int .i64 3])∧Below w.heap.size w w':=by
  have HK:=Lib.hid hk
  clear hk
  have hg43:=get_mks (l:=[43]) (i:=0) (c:=43) rfl (by omega) (by rw [size_mks];simp)
  have hg45:=get_mks (l:=[45]) (i:=0) (c:=45) rfl (by omega) (by rw [size_mks];simp)
  go_enter Tryz.func52,Tryz.ntmps52
  go_wp2_with (go_at_call 71;go_loud (refine(known_any _ _).mono ?_;rw [HK.out];rintro e w6 ⟨rfl,rfl⟩))
  refine bodyPost_ret (v:=.tuple #[.string (mks []),.int .i64 3]) (by simp [results,Tryz.results52,go_sem];rfl) rfl ?_
  exact⟨rfl,(Below.refl _ _).alloc (Nat.le_refl _) _⟩
set_option maxHeartbeats 2000000 in
theorem parse_unknown (s:ByteArray) (base:Int) (w:World) (hk:knownB base=false):Calls Tryz.prog 52 #[.string s,.int .i64 base] w fun e w'=>e=.returned (.tuple #[.string (mks []),.int .i64 1])∧Below w.heap.size w w':=by
  have HK:=Lib.hid hk
  clear hk
  go_enter Tryz.func52,Tryz.ntmps52
  go_wp2_with (go_at_call 71;go_loud (refine(known_any _ _).mono ?_;rw [HK.out];rintro e w6 ⟨rfl,rfl⟩))
  refine bodyPost_ret (v:=.tuple #[.string (mks []),.int .i64 1]) (by simp [results,Tryz.results52,go_sem];rfl) rfl ?_
  exact⟨rfl,Below.refl _ _⟩
theorem parse_any (l : List Nat) (base : Int) (w : World) (hl : By l) (hn : l.length < 4294967296) : Calls Tryz.prog 52 #[.string (mks l), .int .i64 base] w fun e w' =>
    e=.returned (.tuple #[.string (mks (parR l base).1),.int .i64 (parR l base).2])∧Below w.heap.size w w':=by
  cases hk:knownB base with
  | false=>unfold parR;rw [if_neg (by rw [hk];decide)];exact parse_unknown _ base w hk
  | true=>
    have hb:=knownB_true.1 hk
    obtain⟨bs,rfl⟩:∃bs:Nat,base=(bs:Int):=⟨base.toNat,by omega⟩
    have h2:2≤bs:=by omega
    have h16:bs≤16:=by omega
    unfold parR
    rw [if_pos hk,Int.toNat_natCast]
    match l,hl,hn with
    | [],hl,hn=>rw [if_pos (by rfl)];exact parse_nilN _ w hk
    | [43],hl,hn=>rw [if_pos (by rfl)];exact parse_nilP _ w hk
    | [45],hl,hn=>rw [if_pos (by rfl)];exact parse_nilM _ w hk
    | 43 :: c :: b,hl,hn=>rw [if_neg (by simp [parB])];exact parse_P (c :: b) bs w hl.tail h2 h16 hk (by simp at hn ⊢;omega) (by simp)
    | 45 :: c :: b,hl,hn=>rw [if_neg (by simp [parB])];exact parse_M (c :: b) bs w hl.tail h2 h16 hk (by simp at hn ⊢;omega) (by simp)
    | c :: b,hl,hn=>
      by_cases h43:c=43
      · subst h43
        cases b with
        | nil=>rw [if_pos (by rfl)];exact parse_nilP _ w hk
        | cons c b=>rw [if_neg (by simp [parB])];exact parse_P (c :: b) bs w hl.tail h2 h16 hk (by simp at hn ⊢;omega) (by simp)
      · by_cases h45:c=45
        · subst h45
          cases b with
          | nil=>rw [if_pos (by rfl)];exact parse_nilM _ w hk
          | cons c b=>rw [if_neg (by simp [parB])];exact parse_M (c :: b) bs w hl.tail h2 h16 hk (by simp at hn ⊢;omega) (by simp)
        · have e:parB (c :: b)=(false,c :: b):=by unfold parB;split <;> simp_all
          rw [e,if_neg (by simp)]
          exact parse_N (c :: b) bs w hl h2 h16 hk hn (by simp) (by simpa using h43) (by simpa using h45)
end Go.Proofs.YtijoollonkibfaaGreatDoor
