/- Plain laws: the reference's way to read UTF-8 (by the values that bytes can begin) reads what the library's decoder reads. -/
import Derived.Test.YtgbkbgiogdhnaaaGreatDoorMAg
import Derived.Test.YtgbkbgiogdhnaaaGreatDoorNEd
import Derived.Test.YtgbkbgiogdhnaaaGreatDoorMAf
import Derived.Test.YtgbkbgiogdhnaaaGreatDoorMCh
set_option linter.unusedVariables false
set_option linter.unusedSimpArgs false
set_option linter.defProp false
set_option linter.constructorNameAsVariable false
namespace Go.Proofs.YtgbkbgiogdhnaaaGreatDoor
open Go.RowKit
def decR (l:List Nat):Nat×Nat:=if l = []∨decL l=(65533,1) then (0,0) else decL l
theorem cont_iff (c:Nat):contB c=true↔c / 64=2:=by
 unfold contB
 rw [decide_eq_true_eq]
 omega
theorem By.head_lt {a:Nat} {t:List Nat} (h:By (a :: t)):a<256∧By t:=⟨h a (by simp),fun c hc=>h c (by simp [hc])⟩
theorem atG_short {m k:Nat} {l:List Nat} (h:l.length<k):atG m k l=(0,0):=by
 cases m with
 | zero=>rfl
 | succ m=>rw [atG,if_pos h]
theorem atG_skip {m k:Nat} {l:List Nat} (h:(begV (l.take k)).2≠k):atG (m+1) k l=atG m (k+1) l:=by
 rw [atG]
 by_cases hl:l.length<k
 ·rw [if_pos hl,atG_short (by omega)]
 ·rw [if_neg hl,if_neg h]
theorem atG_no {m:Nat} {l:List Nat}:∀{k:Nat},(∀j,k≤j→(begV (l.take j)).2≠j)→atG m k l=(0,0):=by
 induction m with
 | zero=>intro k _;rfl
 | succ m ih=>intro k h;rw [atG_skip (h k (Nat.le_refl _))];exact ih fun j hj=>h j (by omega)
theorem at_lead (a:Nat) (t:List Nat) (h1:¬a<128):atV (a :: t)=if (leadV a).1=0∨(a :: t).length<(leadV a).1 then (0,0) else if (begV ((a :: t).take (leadV a).1)).2=(leadV a).1 then begV ((a :: t).take (leadV a).1) else (0,0):=by
 have hk:∀j,1≤j→j≠(leadV a).1→(begV ((a :: t).take j)).2≠j:=fun j hj hn=>by
  obtain⟨q,rfl⟩:∃q,j=q+1:=⟨j - 1,by omega⟩
  rw [List.take_succ_cons]
  rcases beg_len a (t.take q) (fun h=>h1 h.1) with h | h
  ·rw [h];omega
  ·rw [h];exact fun e=>hn e.symm
 have hit:∀m n,n=(leadV a).1→1≤n→atG (m+1) n (a :: t)=if (leadV a).1=0∨(a :: t).length<(leadV a).1 then (0,0) else if (begV ((a :: t).take (leadV a).1)).2=(leadV a).1 then begV ((a :: t).take (leadV a).1) else (0,0):=fun m n hn h=>by
  rw [atG,←hn]
  by_cases hl:(a :: t).length<n
  ·rw [if_pos hl,if_pos (.inr hl)]
  ·have hno:¬(n=0∨(a :: t).length<n):=by intro h2;rcases h2 with h2 | h2;omega;exact hl h2
   rw [if_neg hl,if_neg hno,atG_no fun j hj=>hk j (by omega) (by omega)]
 have hv:(leadV a).1=0∨(leadV a).1=2∨(leadV a).1=3∨(leadV a).1=4:=by
  rcases lead_cases a with⟨_,_,e⟩ | ⟨_,_,e⟩ | ⟨_,_,e⟩ | ⟨_,e⟩ <;> rw [e] <;> simp
 unfold atV
 rcases hv with e | e | e | e
 ·rw [if_pos (.inl e)]
  exact atG_no fun j hj=>hk j hj (by omega)
 ·rw [atG_skip (hk 1 (by omega) (by omega))]
  exact hit 2 2 e.symm (by omega)
 ·rw [atG_skip (hk 1 (by omega) (by omega)),atG_skip (hk 2 (by omega) (by omega))]
  exact hit 1 3 e.symm (by omega)
 ·rw [atG_skip (hk 1 (by omega) (by omega)),atG_skip (hk 2 (by omega) (by omega)),atG_skip (hk 3 (by omega) (by omega))]
  exact hit 0 4 e.symm (by omega)
theorem decR_of {l:List Nat} {x:Nat×Nat} (hl:l≠[]) (h:decL l=x) (hx:x.2≠1):decR l=x:=by
 unfold decR
 rw [h,if_neg]
 rintro(h1 | h1)
 ·exact hl h1
 ·rw [h1] at hx;exact hx rfl
theorem decR_bad {l:List Nat} (h:decL l=(65533,1)):decR l=(0,0):=by
 unfold decR;rw [if_pos (.inr h)]
theorem all1 (b:Nat):([b].all contB=true)=(b / 64=2):=by rw [List.all_cons,List.all_nil,Bool.and_true];exact propext (cont_iff b)
theorem all2 (b c:Nat):([b,c].all contB=true)=(b / 64=2∧c / 64=2):=by rw [List.all_cons,Bool.and_eq_true,all1];exact propext (and_congr (cont_iff b) Iff.rfl)
theorem all3 (b c d:Nat):([b,c,d].all contB=true)=(b / 64=2∧c / 64=2∧d / 64=2):=by rw [List.all_cons,Bool.and_eq_true,all2];exact propext (and_congr (cont_iff b) Iff.rfl)
theorem beg_two {a b:Nat} (gl:leadV a=(2,a - 192,128,2047)):begV [a,b]=if b / 64=2∧128≤64*(a - 192)+b - 128∧64*(a - 192)+b - 128≤2047∧¬(55296≤64*(a - 192)+b - 128∧64*(a - 192)+b - 128≤57343) then (64*(a - 192)+b - 128,2) else (0,0):=by
 have h:=beg_full a [b] 2 _ _ _ gl rfl (List.cons_ne_nil _ _)
 simp only [all1,foldV_cons,foldV_nil] at h
 exact h
theorem beg_three {a b c:Nat} (gl:leadV a=(3,a - 224,2048,65535)):begV [a,b,c]=if (b / 64=2∧c / 64=2)∧2048≤64*(64*(a - 224)+b - 128)+c - 128∧64*(64*(a - 224)+b - 128)+c - 128≤65535∧¬(55296≤64*(64*(a - 224)+b - 128)+c - 128∧64*(64*(a - 224)+b - 128)+c - 128≤57343) then (64*(64*(a - 224)+b - 128)+c - 128,3) else (0,0):=by
 have h:=beg_full a [b,c] 3 _ _ _ gl rfl (List.cons_ne_nil _ _)
 simp only [all2,foldV_cons,foldV_nil] at h
 exact h
theorem beg_four {a b c d:Nat} (gl:leadV a=(4,a - 240,65536,1114111)):begV [a,b,c,d]=if (b / 64=2∧c / 64=2∧d / 64=2)∧65536≤64*(64*(64*(a - 240)+b - 128)+c - 128)+d - 128∧64*(64*(64*(a - 240)+b - 128)+c - 128)+d - 128≤1114111∧¬(55296≤64*(64*(64*(a - 240)+b - 128)+c - 128)+d - 128∧64*(64*(64*(a - 240)+b - 128)+c - 128)+d - 128≤57343) then (64*(64*(64*(a - 240)+b - 128)+c - 128)+d - 128,4) else (0,0):=by
 have h:=beg_full a [b,c,d] 4 _ _ _ gl rfl (List.cons_ne_nil _ _)
 simp only [all3,foldV_cons,foldV_nil] at h
 exact h
theorem two_more {a b:Nat} {t:List Nat}:¬((2:Nat)=0∨(a :: b :: t).length<2):=by simp
set_option maxRecDepth 100000 in
set_option maxHeartbeats 4000000 in
theorem atV_eq (l:List Nat) (hb:By l):atV l=decR l:=by
 cases l with
 | nil=>simp [atV,atG,decR]
 | cons a t=>
  obtain⟨ha,hbt⟩:=hb.head_lt
  have hdN:=decL_N (a :: t)
  rw [show(a :: t).getD 0 0 % 256=a by show a % 256=a;omega] at hdN
  have hg1:(a :: t).getD 1 0=t.getD 0 0:=rfl
  have hg2:(a :: t).getD 2 0=t.getD 1 0:=rfl
  have hg3:(a :: t).getD 3 0=t.getD 2 0:=rfl
  rw [hg1,hg2,hg3] at hdN
  by_cases h1:a<128
  ·rw [Lib.decodeN_ascii _ _ _ _ _ h1] at hdN
   unfold atV decR
   rw [atG,if_neg (by simp),show(a :: t).take 1 = [a] by simp,beg_one a h1,if_pos rfl,hdN,if_neg (by simp;omega)]
  ·rw [at_lead a t h1]
   have hbd:∀i,t.getD i 0<256:=fun i=>by
    rw [List.getD_eq_getElem?_getD]
    cases hi:t[i]? with
    | none=>simp
    | some c=>exact hbt c (List.mem_of_getElem? hi)
   have b0:=hbd 0
   have b1:=hbd 1
   have b2:=hbd 2
   rcases lead_cases a with⟨g1,g2,gl⟩ | ⟨g1,g2,gl⟩ | ⟨g1,g2,gl⟩ | ⟨g1,gl⟩
   ·simp only [gl]
    match t,hdN,b0 with
    | [],hdN,_=>
     rw [if_pos (by simp)]
     exact(decR_bad (by rw [hdN];exact Lib.decodeN_alone _ _ _ _ _ (by omega) (.inl (by simp)))).symm
    | b :: t,hdN,b0=>
     have hno:¬((2:Nat)=0∨(a :: b :: t).length<2):=two_more
     rw [if_neg hno,show(a :: b :: t).take 2 = [a,b] by simp]
     have hbf:=beg_two (b:=b) gl
     simp only [List.getD_cons_zero,List.length_cons] at hdN b0
     have eb:b % 256=b:=by omega
     simp only [eb] at hdN
     unfold Lib.decodeN at hdN
     rw [if_neg h1] at hdN
     by_cases hc:b / 64=2∧128≤64*(a - 192)+b - 128
     ·rw [if_pos ⟨by omega,by omega,by omega⟩,if_pos (by omega)] at hdN
      rw [if_pos ⟨hc.1,hc.2,by omega,by omega⟩] at hbf
      rw [hbf,if_pos rfl,decR_of (by simp) hdN (by simp)]
      simp only [Prod.mk.injEq,and_true]
      omega
     ·rw [if_neg (fun h=>hc ⟨h.1,h.2.1⟩)] at hbf
      rw [hbf,if_neg (by simp)]
      refine(decR_bad ?_).symm
      rw [hdN]
      by_cases hb64:b / 64=2
      ·rw [if_pos ⟨by omega,by omega,hb64⟩,if_neg (by omega)]
      ·rw [if_neg (fun h=>hb64 h.2.2),if_neg (by omega),if_neg (by omega)]
   ·simp only [gl]
    match t,hdN,b0,b1 with
    | [],hdN,_,_=>
     rw [if_pos (by simp)]
     exact(decR_bad (by rw [hdN];exact Lib.decodeN_alone _ _ _ _ _ (by omega) (.inl (by simp)))).symm
    | [b],hdN,_,_=>
     rw [if_pos (by simp)]
     refine(decR_bad ?_).symm
     rw [hdN]
     unfold Lib.decodeN
     simp only [List.length_cons,List.length_nil]
     rw [if_neg h1,if_neg (by omega),if_neg (by omega),if_neg (by omega)]
    | b :: c :: t,hdN,b0,b1=>
     rw [if_neg (by simp),show(a :: b :: c :: t).take 3 = [a,b,c] by simp]
     have hbf:=beg_three (b:=b) (c:=c) gl
     simp only [List.getD_cons_zero,List.getD_cons_succ,List.length_cons] at hdN b0 b1
     have eb:b % 256=b:=by omega
     have ec:c % 256=c:=by omega
     simp only [eb,ec] at hdN
     unfold Lib.decodeN at hdN
     rw [if_neg h1,if_neg (by omega)] at hdN
     by_cases hc:(b / 64=2∧c / 64=2)∧2048≤64*(64*(a - 224)+b - 128)+c - 128∧¬(55296≤64*(64*(a - 224)+b - 128)+c - 128∧64*(64*(a - 224)+b - 128)+c - 128≤57343)
     ·rw [if_pos ⟨by omega,⟨by omega,by omega⟩,by omega,by omega⟩,if_pos ⟨by omega,by omega⟩] at hdN
      rw [if_pos ⟨hc.1,hc.2.1,by omega,hc.2.2⟩] at hbf
      rw [hbf,if_pos rfl,decR_of (by simp) hdN (by simp)]
      simp only [Prod.mk.injEq,and_true]
      omega
     ·rw [if_neg (fun h=>hc ⟨h.1,h.2.1,h.2.2.2⟩)] at hbf
      rw [hbf,if_neg (by simp)]
      refine(decR_bad ?_).symm
      rw [hdN]
      by_cases hb64:b / 64=2∧c / 64=2
      ·rw [if_pos ⟨by omega,⟨by omega,hb64.1⟩,by omega,hb64.2⟩,if_neg (by omega)]
      ·rw [if_neg (fun h=>hb64 ⟨h.2.1.2,h.2.2.2⟩),if_neg (by omega)]
   ·simp only [gl]
    match t,hdN,b0,b1,b2 with
    | [],hdN,_,_,_=>
     rw [if_pos (by simp)]
     exact(decR_bad (by rw [hdN];exact Lib.decodeN_alone _ _ _ _ _ (by omega) (.inl (by simp)))).symm
    | [b],hdN,_,_,_=>
     rw [if_pos (by simp)]
     refine(decR_bad ?_).symm
     rw [hdN]
     unfold Lib.decodeN
     simp only [List.length_cons,List.length_nil]
     rw [if_neg h1,if_neg (by omega),if_neg (by omega),if_neg (by omega)]
    | [b,c],hdN,_,_,_=>
     rw [if_pos (by simp)]
     refine(decR_bad ?_).symm
     rw [hdN]
     unfold Lib.decodeN
     simp only [List.length_cons,List.length_nil]
     rw [if_neg h1,if_neg (by omega),if_neg (by omega),if_neg (by omega)]
    | b :: c :: d :: t,hdN,b0,b1,b2=>
     rw [if_neg (by simp),show(a :: b :: c :: d :: t).take 4 = [a,b,c,d] by simp]
     have hbf:=beg_four (b:=b) (c:=c) (d:=d) gl
     simp only [List.getD_cons_zero,List.getD_cons_succ,List.length_cons] at hdN b0 b1 b2
     have eb:b % 256=b:=by omega
     have ec:c % 256=c:=by omega
     have ed:d % 256=d:=by omega
     simp only [eb,ec,ed] at hdN
     unfold Lib.decodeN at hdN
     rw [if_neg h1,if_neg (by omega),if_neg (by omega)] at hdN
     by_cases hc:(b / 64=2∧c / 64=2∧d / 64=2)∧65536≤64*(64*(64*(a - 240)+b - 128)+c - 128)+d - 128∧64*(64*(64*(a - 240)+b - 128)+c - 128)+d - 128≤1114111
     ·rw [if_pos ⟨by omega,⟨by omega,by omega⟩,⟨by omega,by omega⟩,by omega,by omega⟩,if_pos ⟨by omega,by omega⟩] at hdN
      rw [if_pos ⟨hc.1,hc.2.1,hc.2.2,by omega⟩] at hbf
      rw [hbf,if_pos rfl,decR_of (by simp) hdN (by simp)]
      simp only [Prod.mk.injEq,and_true]
      omega
     ·rw [if_neg (fun h=>hc ⟨h.1,h.2.1,h.2.2.1⟩)] at hbf
      rw [hbf,if_neg (by simp)]
      refine(decR_bad ?_).symm
      rw [hdN]
      by_cases hb64:b / 64=2∧c / 64=2∧d / 64=2
      ·rw [if_pos ⟨by omega,⟨by omega,hb64.1⟩,⟨by omega,hb64.2.1⟩,by omega,hb64.2.2⟩,if_neg (by omega)]
      ·rw [if_neg (fun h=>hb64 ⟨h.2.1.2,h.2.2.1.2,h.2.2.2.2⟩)]
   ·simp only [gl,true_or,if_true]
    refine(decR_bad ?_).symm
    rw [hdN]
    unfold Lib.decodeN
    rw [if_neg h1,if_neg (by omega),if_neg (by omega),if_neg (by omega)]
end Go.Proofs.YtgbkbgiogdhnaaaGreatDoor
namespace Go.Proofs.YtgbkbgiogdhnaaaGreatDoor
open Go.RowKit
theorem Tryz.infoI32:(Tryz.prog.info? 21).map (fun i=>(i.zero,i.size,i.bytes))=some (some (.int .i32 0),1,4):=by kernel_rfl
theorem begV_le (b:List Nat):(begV b).1≤1114111:=by
 have h:(leadV (b.getD 0 0)).2.2.2≤1114111:=by
  rcases lead_cases (b.getD 0 0) with⟨_,_,h⟩ | ⟨_,_,h⟩ | ⟨_,_,h⟩ | ⟨_,h⟩ <;> rw [h] <;> simp
 unfold begV
 generalize b.getD 0 0=x at *
 generalize leadV x=y at *
 generalize loV (y.1 - b.length) (foldV y.2.1 (b.drop 1))=z at *
 generalize hiV (y.1 - b.length) (foldV y.2.1 (b.drop 1))=z' at *
 (repeat' split) <;> dsimp only <;> omega
theorem atG_le (m k:Nat) (l:List Nat):(atG m k l).1≤1114111:=by
 induction m generalizing k with
 | zero=>simp [atG]
 | succ m ih=>
  rw [atG]
  (repeat' split)
  ·simp
  ·exact begV_le _
  ·exact ih _
theorem atV_le (l:List Nat):(atV l).1≤1114111:=atG_le _ _ _
theorem at_h (l:List Nat) (hl:By l) (hlen:l.length<4294967296) (p:Nat) (hp:p≤l.length):Hid (∀w,Calls Tryz.prog 83 #[.string (mks l),.int .i64 (p:Int)] w (PairB w (atV (l.drop p)))):=fun w=>at_any l hl hlen p hp w
def DecR (w:World) (o:Option Nat) (e:Ending) (w':World):Prop:=(∃A n c,e=.returned (.tuple #[.slice A n c,.int .i64 (ckAt o)]))∧Below w.heap.size w w'
theorem dec_cases {f p:Nat} {l:List Nat} {v:Option Nat} (hne:l≠[]) (hb:By l) (h:checkG (f+1) p l=v) :
  ((atV l).2=0∧v=some p)∨((atV l).2≠0∧(atV l).2≤l.length∧checkG f (p+(atV l).2) (l.drop (atV l).2)=v):=by
 rw [checkG,if_neg hne] at h
 rw [atV_eq l hb]
 unfold decR
 by_cases hd:decL l=(65533,1)
 ·rw [if_pos hd] at h;rw [if_pos (.inr hd)];exact .inl ⟨rfl,h.symm⟩
 ·rw [if_neg hd] at h
  rw [if_neg (by rintro(h1 | h1) <;> contradiction)]
  refine .inr ⟨?_,?_,h⟩
  ·have:=(decL_bd l).2;omega
  ·have:=Lib.decodeL_le (u8s l) (by intro h;exact hne (List.map_eq_nil_iff.1 h))
   rw [show(u8s l).length=l.length by unfold u8s;rw [List.length_map]] at this
   exact this
set_option maxRecDepth 8000 in
set_option maxHeartbeats 4000000 in
theorem rdecode_any (l:List Nat) (hl:By l) (hlen:l.length<4294967296) (w:World):Calls Tryz.prog 49 #[.string (mks l)] w (DecR w (checkV l)):=by
 generalize hv:checkV l=v
 have HV:Hid (checkG l.length 0 (l.drop 0)=v):=hv
 clear hv
 go_enter Tryz.func49,Tryz.ntmps49
 go_wp2
 go_loopw [4,5] (fun ov iv wr=>∃p f n xs,p≤l.length∧l.length≤p+f∧n≤p∧iv=.int .i64 (p:Int)∧Hid (checkG f p (l.drop p)=v)∧wr.ownsRow w.heap.size 21 1 ov n xs∧Below w.heap.size w wr) (fun _ iv _=>l.length - (intOf iv).toNat)
 case atStart=>exact⟨0,l.length,0,[],by omega,by omega,by omega,rfl,HV,⟨by simp,.inl ⟨rfl,rfl⟩⟩,Below.refl _ _⟩
 case round=>
  obtain⟨p,f,n,xs,hp,hf,hn,rfl,hq,hown,hbw⟩:=hrel
  clear HV
  by_cases hlt:p<l.length
  ·have hne:l.drop p≠[]:=by intro h;have:=congrArg List.length h;simp at this;omega
   obtain⟨f,rfl⟩:∃f',f=f'+1:=⟨f - 1,by omega⟩
   have hc:=dec_cases hne (hl.drop p) hq.out
   have DA:=at_h l hl hlen p hp
   have hle:=atV_le (l.drop p)
   rw [List.length_drop,List.drop_drop] at hc
   generalize atV (l.drop p)=q at *
   obtain⟨x1,x2⟩:=q
   simp only at hc hle
   clear hq hne
   rcases hc with⟨rfl,rfl⟩ | ⟨h1,h2,h3⟩
   ·obtain⟨A,c,rfl,_⟩:=own_rd hown
    go_wp2_with (go_at_call 83;((with_reducible refine(DA.out _).mono ?_));rintro e w8 ⟨rfl,hb8⟩)
    go_ret2
    exact⟨⟨A,n,c,rfl⟩,hbw.trans (hb8.mono hbw.size)⟩
   ·have h1':((x2:Int) == 0)=false:=by simp;omega
    have h1x:1≤x2:=by have h:x2≠0:=h1;omega
    have H3:=Lib.hid h3
    clear h1 h3
    go_wp2_with (first | (go_at_call 83;((with_reducible refine(DA.out _).mono ?_));rintro e w8 ⟨rfl,hb8⟩) | (at_builtin;go_loud (refine wpList_ap1 rfl (.tmp 22) (.tmp 25) 110 rfl w.heap.size 21 _ _ Tryz.underlying110 Tryz.infoI32 rfl _ n xs rfl ((own_below hown hb8).alloc _) ⟨w8.heap.size,0,none⟩ _ (.int .i32 (x1:Int)) rfl (cell_new _ _ _) rfl (by unfold maxLen;omega) (by omega) (by have:=hbw.size;have:=hb8.size;simp;omega) ?_;intro v9 w9 hown9 hg9)))
    go_roundw
    case rel=>refine⟨p+x2,f,n+1,_,by omega,by omega,by omega,i64e (by omega),H3,hown9,?_⟩;refine Below.grown ((hbw.trans (hb8.mono hbw.size)).alloc (by have:=hbw.size;have:=hb8.size;omega) _) hg9 (by have:=hbw.size;have:=hb8.size;simp;omega) ?_;intro k e;exact(hown.lt k e).1
    case measure=>simp [intOf];omega
  ·obtain rfl:p=l.length:=by omega
   have hd:l.drop l.length = []:=List.drop_length
   have hce:checkG f l.length []=none:=by cases f <;> simp [checkG]
   rw [hd,hce] at hq
   clear hd hce
   have h:=hq.out
   subst h
   obtain⟨A,c,rfl,_⟩:=own_rd hown
   go_wp2
   go_ret2
   exact⟨⟨A,n,c,rfl⟩,hbw⟩
end Go.Proofs.YtgbkbgiogdhnaaaGreatDoor
namespace Go.Proofs.YtgbkbgiogdhnaaaGreatDoor
open Go.RowKit
set_option maxRecDepth 8000 in
theorem rvalid_any (s:List Nat) (hs:By s) (hsl:s.length≤100000) (w:World) :
  Calls Tryz.prog 26 #[.string (mks s)] w fun e w'=>e=.returned (.bool (checkV s).isNone)∧Below w.heap.size w w':=by
 have D:=Lib.hid (rdecode_any s hs (by omega) w)
 obtain⟨v,hv⟩:∃v,ckAt (checkV s)=v:=⟨_,rfl⟩
 have hq:decide (v<0)=(checkV s).isNone:=by
  rw [←hv]
  cases checkV s with
  | none=>rfl
  | some k=>show decide ((k:Int)<0)=false;simp
 unfold DecR at D
 rw [hv] at D
 rw [←hq]
 clear hq hv
 go_enter Tryz.func26,Tryz.ntmps26
 go_wp2_with (go_at_call 49;((with_reducible refine D.out.mono ?_));rintro e w1 ⟨⟨A,n,c,rfl⟩,hb1⟩)
 go_ret
 exact⟨rfl,hb1⟩
set_option maxRecDepth 8000 in
theorem rquoted_any (s:List Nat) (hs:By s) (hsl:s.length≤100000) (w:World) :
  Calls Tryz.prog 11 #[.string (mks s)] w fun e w'=>e=.returned (.tuple #[.string (mks (quoteR s).1),.int .i64 (quoteR s).2])∧Below w.heap.size w w':=by
 have DV:=Lib.hid (rvalid_any s hs hsl w)
 have DQ:=Lib.hid (fun w=>rquote_any s hs hsl w)
 have hql:(quoteV s).length≤600002:=by rw [quote_len];have:=(escL_len s).2;omega
 cases hc:checkV s with
 | some k=>
  have e:quoteR s=([],11):=by unfold quoteR;rw [hc];rfl
  rw [e]
  rw [hc] at DV
  clear e hc DQ hql
  go_enter Tryz.func11,Tryz.ntmps11
  go_wp2_with (go_at_call 26;((with_reducible refine DV.out.mono ?_));rintro e w1 ⟨rfl,hb1⟩)
  go_ret2
  exact⟨rfl,hb1⟩
 | none=>
  have e:quoteR s=limV2 (quoteV s):=by unfold quoteR;rw [hc];rfl
  rw [e]
  rw [hc] at DV
  clear e hc
  obtain⟨n,hn⟩:∃n,(quoteV s).length=n:=⟨_,rfl⟩
  have hsz:(mks (quoteV s)).size=n:=by rw [size_mks];exact hn
  rw [hn] at hql
  by_cases h:65536<n
  ·have h':(n:Int) > 65536:=by omega
   have e:limV2 (quoteV s)=([],6):=by unfold limV2;rw [if_pos (by omega)]
   rw [e]
   clear e hn
   go_enter Tryz.func11,Tryz.ntmps11
   go_wp2_with (first | (go_at_call 26;((with_reducible refine DV.out.mono ?_));rintro e w1 ⟨rfl,hb1⟩) | (go_at_call 27;((with_reducible refine(DQ.out _).mono ?_));rintro e w2 ⟨rfl,hb2⟩))
   go_ret2
   exact⟨rfl,hb1.trans (hb2.mono hb1.size)⟩
  ·have h':¬(n:Int) > 65536:=by omega
   have e:limV2 (quoteV s)=(quoteV s,0):=by unfold limV2;rw [if_neg (by omega)]
   rw [e]
   clear e hn
   go_enter Tryz.func11,Tryz.ntmps11
   go_wp2_with (first | (go_at_call 26;((with_reducible refine DV.out.mono ?_));rintro e w1 ⟨rfl,hb1⟩) | (go_at_call 27;((with_reducible refine(DQ.out _).mono ?_));rintro e w2 ⟨rfl,hb2⟩))
   go_ret2
   exact⟨rfl,hb1.trans (hb2.mono hb1.size)⟩
end Go.Proofs.YtgbkbgiogdhnaaaGreatDoor
