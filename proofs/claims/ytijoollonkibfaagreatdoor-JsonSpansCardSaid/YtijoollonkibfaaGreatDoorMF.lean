/- The walk of Check of codepoint. -/
import Derived.Test.YtijoollonkibfaaGreatDoorME
namespace Go.Proofs.YtijoollonkibfaaGreatDoor
open Go.RowKit
theorem decodeGo_mks (l:List Nat) (h:l≠[]):Lib.decodeGo (mks l)=decL l:=by
 unfold Lib.decodeGo
 rw [if_neg (by rw [size_mks];exact fun h'=>h (List.eq_nil_of_length_eq_zero h'))]
 have:=decode_drop l 0
 simpa using this
theorem decRune_h (l:List Nat) (h:l≠[]) {r k:Nat} (hd:decL l=(r,k)):Hid (∀w,LibOK w→Calls Tryz.prog 44 #[.string (mks l)] w fun e w'=>e=.returned (.tuple #[.int .i32 (r:Int),.int .i64 (k:Int)])∧Below w.heap.size w w'):=fun w hw=>by
 have:=Tryz.utf8_DecodeRuneInString (mks l) w hw.tabs
 rw [decodeGo_mks l h,hd] at this
 exact this
def ckAt (o:Option Nat):Int:=match o with | some k=>(k:Int) | none=>-1
def ckErr (o:Option Nat):Int:=match o with | some _=>11 | none=>0
def CheckR (w:World) (o:Option Nat) (e:Ending) (w':World):Prop:=e=.returned (.tuple #[.int .i64 (ckAt o),.int .i64 (ckErr o)])∧Below w.heap.size w w'
theorem check_cases {f:Nat} {l:List Nat} {p r k:Nat} {v:Option Nat} (hne:l≠[]) (hd:decL l=(r,k)) (h:checkG (f+1) p l=v) :
  (r=65533∧k=1∧v=some p)∨(r=65533∧k≠1∧checkG f (p+k) (l.drop k)=v)∨(r≠65533∧checkG f (p+k) (l.drop k)=v):=by
 rw [checkG,if_neg hne,hd] at h
 by_cases hr:r=65533
 ·by_cases hk:k=1
  ·subst hr;subst hk;simp at h;exact .inl ⟨rfl,rfl,h.symm⟩
  ·rw [if_neg (by intro e;exact hk (congrArg Prod.snd e))] at h;exact .inr (.inl ⟨hr,hk,h⟩)
 ·rw [if_neg (by intro e;exact hr (congrArg Prod.fst e))] at h;exact .inr (.inr ⟨hr,h⟩)
set_option maxRecDepth 8000 in
set_option maxHeartbeats 2000000 in
theorem check_any (l:List Nat) (hlen:l.length<4294967296) (w:World) (hw:LibOK w):Calls Tryz.prog 22 #[.string (mks l)] w (CheckR w (checkV l)):=by
 generalize hv:checkV l=v
 have HV:Hid (checkG l.length 0 (l.drop 0)=v):=hv
 have HW:=Lib.hid hw
 clear hv hw
 go_enter Tryz.func22,Tryz.ntmps22
 go_wp2
 go_loopw [] (fun wr=>∃pos fuel,wr.heap[w.heap.size]? = some (.stringIter (mks l) pos)∧Below w.heap.size w wr∧Hid (checkG fuel pos (l.drop pos)=v)∧l.length≤pos+fuel∧pos≤l.length) (fun wr=>l.length - wr.iterPos w.heap.size)
 case atStart=>
  refine⟨0,l.length,?_,(Below.refl _ w).alloc (Nat.le_refl _) _,HV,by omega,by omega⟩
  have:=World.iter_heap w (mks l) 0
  simpa using this
 case round=>
  obtain⟨pos,fuel,hit,hbw,hq,hfu,hpl⟩:=hrel
  have hsz:w.heap.size<wr.heap.size:=(Array.getElem?_eq_some_iff.1 hit).1
  by_cases hp:pos<l.length
  ·have hne:l.drop pos≠[]:=by intro h;have:=congrArg List.length h;simp at this;omega
   have hnx0:∀ty,(Instr.next (.pointer (some ⟨w.heap.size,0,none⟩)) true ty).run Tryz.prog wr=_:=fun ty=>Lib.run_next_any_at wr w.heap.size (mks l) pos ty hit (by rw [size_mks];exact hp)
   rw [decode_drop] at hnx0
   obtain⟨f,rfl⟩:∃f,fuel=f+1:=⟨fuel - 1,by omega⟩
   have hd:=decL_bd (l.drop pos)
   have hkl:(decL (l.drop pos)).2≤(l.drop pos).length:=by
    have:=Lib.decodeL_le (u8s (l.drop pos)) (by intro h;exact hne (List.map_eq_nil_iff.1 h))
    rw [show(u8s (l.drop pos)).length=(l.drop pos).length by unfold u8s;rw [List.length_map]] at this
    exact this
   rw [List.length_drop] at hkl
   obtain⟨⟨r,k⟩,hdd⟩:∃x,decL (l.drop pos)=x:=⟨_,rfl⟩
   have DD:=decRune_h (l.drop pos) hne hdd
   have hcases:=check_cases hne hdd hq.out
   rw [hdd] at hnx0 hd hkl
   rw [List.drop_drop] at hcases
   clear hq hdd hne
   simp only at hd hkl hcases hnx0
   have hit2:=Lib.iterAt_heap wr w.heap.size (mks l) pos (pos+k) hit
   have hbw2:=Lib.below_iterAt hbw (k:=w.heap.size) (by omega) (mks l) (pos+k)
   have hsz2:w.heap.size<(wr.iterAt w.heap.size (mks l) (pos+k)).heap.size:=by rw [Lib.iterAt_size];exact hsz
   have HIT2:=Lib.hid hit2
   clear hit2 hbw
   have hok:=HW.out.keep hbw2
   have hp':(pos:Int)≤l.length:=by omega
   rcases hcases with⟨rfl,rfl,hq⟩ | ⟨rfl,h1,hq⟩ | ⟨hr,hq⟩
   ·subst hq
    go_wp2_with (go_at_call 44;((with_reducible refine(DD.out _ hok).mono ?_));rintro e w5 ⟨rfl,hb5⟩)
    go_ret2
    exact⟨rfl,hbw2.trans (hb5.mono (by omega))⟩
   ·have h1':((k:Int) == 1)=false:=by simp;omega
    have HQ:=Lib.hid hq
    clear hq h1
    go_wp2_with (go_at_call 44;((with_reducible refine(DD.out _ hok).mono ?_));rintro e w5 ⟨rfl,hb5⟩)
    have hit5:=(hb5.block _ hsz2).trans HIT2.out
    go_roundw
    case rel=>exact⟨pos+k,f,hit5,hbw2.trans (hb5.mono (by omega)),HQ,by omega,by omega⟩
    case measure=>
     simp only [World.iterPos,hit5,hit]
     omega
   ·have hr':((r:Int) == 65533)=false:=by simp;omega
    have HQ:=Lib.hid hq
    clear hq hr
    go_wp2
    go_roundw
    case rel=>exact⟨pos+k,f,HIT2.out,hbw2,HQ,by omega,by omega⟩
    case measure=>
     simp only [World.iterPos,HIT2.out,hit]
     omega
  ·have hnx0:∀ty,(Instr.next (.pointer (some ⟨w.heap.size,0,none⟩)) true ty).run Tryz.prog wr=_:=fun ty=>Lib.run_next_end_at wr w.heap.size (mks l) pos ty hit (by rw [size_mks];exact hp)
   have hd:l.drop pos = []:=List.drop_eq_nil_of_le (by omega)
   have hce:checkG fuel pos []=none:=by cases fuel <;> simp [checkG]
   rw [hd,hce] at hq
   clear hd hce
   go_wp2
   go_ret2
   have h:=hq.out
   subst h
   exact⟨rfl,hbw⟩
end Go.Proofs.YtijoollonkibfaaGreatDoor
namespace Go.Proofs.YtijoollonkibfaaGreatDoor
open Go.RowKit
def tokC (t:JTok):List Value:=[.int .i64 (t.kind:Int),.int .i64 (t.from_:Int),.int .i64 (t.to_:Int),.string (mks t.text)]
def TokR (w:World) (x:JTok×Nat) (e:Ending) (w':World):Prop:=e=.returned (.tuple #[.agg (tokC x.1).toArray,.int .i64 (x.2:Int)])∧Below w.heap.size w w'
theorem Tryz.sz67:(Tryz.prog.info? 67).map (·.size)=some 4:=by kernel_rfl
theorem letter_h (c:Nat) (hc:c<256):Hid (∀w,Calls Tryz.prog 49 #[.int .u8 (c:Int)] w fun e w'=>e=.returned (.bool (letB c))∧w=w'):=fun w=>letter_any c hc w
theorem numeric_h (c:Nat) (hc:c<256):Hid (∀w,Calls Tryz.prog 50 #[.int .u8 (c:Int)] w fun e w'=>e=.returned (.bool (numB c))∧w=w'):=fun w=>numeric_any c hc w
theorem seqN_le (l:List Nat):seqN l≤l.length:=by
 induction l with
 | nil=>exact Nat.le_refl _
 | cons c l ih=>unfold seqN;split <;> simp <;> omega
theorem parseD_h (s:List Nat) (hs:By s) (hl:s.length<4294967295):Hid (∀w,LibOK w→Calls Tryz.prog 54 #[.string (mks s)] w (StrE w (parseDV s))):=fun w hw=>parseD_any s w hs hl hw.pow
theorem parseDV_err (s:List Nat):((parseDV s).2=3↔(numeralV s).isNone=true):=by
 unfold parseDV
 cases numeralV s with
 | none=>simp
 | some x=>
  have:=limV_bd x
  unfold resV
  simp only [Option.isNone_some,Bool.false_eq_true,iff_false]
  split
  ·simp
  ·simp only
   unfold limV at *
   (repeat' split) <;> omega
abbrev zTok:List Value:=[.int .i64 0,.int .i64 0,.int .i64 0,.string ⟨#[]⟩]
theorem toL_iff {t:List Nat} (ht:By t) (lit:List UInt8):(mks t).toList=lit↔t=lit.map UInt8.toNat:=by
 rw [toList_mks]
 constructor
 ·rintro rfl
  rw [List.map_map]
  refine(List.map_id t).symm.trans (List.map_congr_left fun c hc=>?_)
  have:=ht c hc
  simp;omega
 ·rintro rfl
  rw [List.map_map]
  refine Eq.trans (List.map_congr_left fun c _=>?_) (List.map_id lit)
  simp
theorem three (p q r:Prop):((p∨q∨r)∧(p∨(¬p∧q)∨(¬p∧¬q∧r)))∨(¬(p∨q∨r)∧(¬p∧¬q∧¬r)):=by
 by_cases hp:p <;> by_cases hq:q <;> by_cases hr:r <;> simp [hp,hq,hr]
theorem seqN_step {s:List Nat} {k c N:Nat} (hc:s[k]? = some c) (h:k+seqN (s.drop k)=N):((letB c || numB c)=true∧k+1+seqN (s.drop (k+1))=N)∨((letB c || numB c)=false∧k=N):=by
 rw [drop_cons hc,seqN] at h
 cases hb:(letB c || numB c) with
 | true=>rw [hb] at h;simp only [if_true] at h;exact .inl ⟨rfl,by omega⟩
 | false=>rw [hb] at h;simp only [Bool.false_eq_true,if_false] at h;exact .inr ⟨rfl,by omega⟩
set_option maxRecDepth 8000 in
set_option maxHeartbeats 4000000 in
theorem seq_num (s:List Nat) (c:Nat) (hs:By s) (hl:s.length<4294967281) (hc:s[0]? = some c) (hn:numB c=true) (w:World) (hw:LibOK w):Calls Tryz.prog 51 #[.string (mks s)] w (TokR w (seqV s)):=by
 have hd:s.getD 0 0=c:=by simp [List.getD,hc]
 have hv:seqV s=if (parseDV (s.take (seqN s))).2=3 then (noTok,12) else (⟨3,0,seqN s,s.take (seqN s)⟩,0):=by
  unfold seqV
  rw [hd,if_pos hn]
  by_cases h:(parseDV (s.take (seqN s))).2=3
  ·rw [if_pos h,if_pos ((parseDV_err _).1 h)]
  ·rw [if_neg h,if_neg (fun h'=>h ((parseDV_err _).2 h'))]
 rw [hv]
 have hN:=seqN_le s
 have DP:=parseD_h (s.take (seqN s)) (hs.take _) (by rw [List.length_take];omega)
 have HQ0:Hid (0+seqN (s.drop 0)=seqN s):=by show _=_;simp
 have hcb:=hs.get hc
 have hlen:0<s.length:=(List.getElem?_eq_some_iff.1 hc).1
 have h0:((mks s)[0]'(by rw [size_mks];exact hlen)).toNat=c:=get_mks hc hcb _
 have DN0:=numeric_h c hcb
 rw [hn] at DN0
 generalize parseDV (s.take (seqN s))=pv at *
 clear hv hc hd hn
 generalize seqN s=N at *
 generalize hx:(if pv.2=3 then (noTok,12) else ((⟨3,0,N,s.take N⟩:JTok),0))=x
 have HV:=Lib.hid hx
 clear hx
 have HW:=Lib.hid hw
 clear hw
 have HX:=Lib.hid (Arr.new w 67 zTok)
 have HBd:Below w.heap.size w (w.alloc (.cells #[.int .i64 0,.int .i64 0,.int .i64 0,.string ⟨#[]⟩] 67)):=(Below.refl _ _).alloc (Nat.le_refl _) _
 go_enter Tryz.func51,Tryz.ntmps51
 go_upto_region 1 with(fail)
 have hlow:w.heap.size<(w.alloc (.cells #[.int .i64 0,.int .i64 0,.int .i64 0,.string ⟨#[]⟩] 67)).heap.size:=HX.out.lt
 change Hid (Arr (w.alloc (.cells #[.int .i64 0,.int .i64 0,.int .i64 0,.string ⟨#[]⟩] 67)) w.heap.size 67 zTok) at HX
 generalize (w.alloc (.cells #[.int .i64 0,.int .i64 0,.int .i64 0,.string ⟨#[]⟩] 67))=W at *
 go_wp2
 go_loopw [4] (fun nv wr=>∃k:Nat,k≤s.length∧nv=.int .i64 (k:Int)∧Hid (k+seqN (s.drop k)=N)∧W=wr) (fun nv _=>s.length - (intOf nv).toNat)
 case atStart=>exact⟨0,by omega,rfl,HQ0,rfl⟩
 case round=>
  clear HQ0
  obtain⟨k,hk,rfl,hq,rfl⟩:=hrel
  have hcases:(∃hp:k<s.length,∃d,((mks s)[k]'(by rw [size_mks];exact hp)).toNat=d∧d<256∧(letB d || numB d)=true∧Hid (k+1+seqN (s.drop (k+1))=N)) ∨
    (k=N∧((∃hp:k<s.length,∃d,((mks s)[k]'(by rw [size_mks];exact hp)).toNat=d∧d<256∧(letB d || numB d)=false)∨¬(k:Int)<s.length)):=by
   by_cases hlt:k<s.length
   ·obtain⟨d,hd⟩:∃d,s[k]? = some d:=⟨_,List.getElem?_eq_getElem hlt⟩
    have gd:=get_mks hd (hs.get hd) (by rw [size_mks];exact hlt)
    rcases seqN_step hd hq.out with⟨h1,h2⟩ | ⟨h1,h2⟩
    ·exact .inl ⟨hlt,d,gd,hs.get hd,h1,h2⟩
    ·exact .inr ⟨h2,.inl ⟨hlt,d,gd,hs.get hd,h1⟩⟩
   ·obtain rfl:k=s.length:=by omega
    have h:=hq.out
    rw [List.drop_length,seqN] at h
    exact .inr ⟨by omega,.inr (by omega)⟩
  clear hq
  rcases hcases with⟨hlt,d,gd,hdb,hb,hq⟩ | ⟨rfl,hstop⟩
  ·have DL:=letter_h d hdb
   have DN:=numeric_h d hdb
   cases h1:letB d
   all_goals
    rw [h1] at DL hb
    simp only [Bool.false_or,Bool.true_or] at hb
    first | rw [hb] at DN | skip
    clear h1 hb
    go_wp2_with (first | (go_at_call 49;((with_reducible refine(DL.out _).mono ?_));rintro e wn ⟨rfl,rfl⟩) | (go_at_call 50;((with_reducible refine(DN.out _).mono ?_));rintro e wn ⟨rfl,rfl⟩))
    go_roundw
    case rel=>exact⟨k+1,by omega,by go_num,hq,trivial⟩
    case measure=>simp [intOf];omega
  ·have hX0:=Lib.hid (Arr.new W 67 zTok)
   have hBW:Below W.heap.size W (W.alloc (.cells #[.int .i64 0,.int .i64 0,.int .i64 0,.string ⟨#[]⟩] 67)):=(Below.refl _ _).alloc (Nat.le_refl _) _
   have hkl:(k:Int)≤s.length:=by omega
   have hstop2:(∃hp:k<s.length,∃d,((mks s)[k]'(by rw [size_mks];exact hp)).toNat=d∧(∀w,Calls Tryz.prog 49 #[.int .u8 (d:Int)] w fun e w'=>e=.returned (.bool false)∧w=w')∧(∀w,Calls Tryz.prog 50 #[.int .u8 (d:Int)] w fun e w'=>e=.returned (.bool false)∧w=w'))∨¬(k:Int)<s.length:=by
    rcases hstop with⟨hlt,d,gd,hdb,hb⟩ | h
    ·have DL:=letter_h d hdb
     have DN:=numeric_h d hdb
     rw [Bool.or_eq_false_iff] at hb
     rw [hb.1] at DL
     rw [hb.2] at DN
     exact .inl ⟨hlt,d,gd,DL.out,DN.out⟩
    ·exact .inr h
   clear hstop
   rcases hstop2 with⟨hlt,d,gd,DL,DN⟩ | hge
   all_goals
    try have DL:=Lib.hid DL
    try have DN:=Lib.hid DN
    go_upto_region 5 with(first | (go_at_call 49;((with_reducible refine(DL.out _).mono ?_));rintro e wn ⟨rfl,rfl⟩) | (go_at_call 50;((with_reducible refine(DN.out _).mono ?_));rintro e wn ⟨rfl,rfl⟩) | ((with_reducible show wpList _ _ _ (Oper.mk none (Op.store 67 (Operand.tmp 5) (Operand.tmp 30)) _ _ _ _ :: _) _ _);go_loud (refine wpList_sr rfl rfl 67 (.tmp 5) (.tmp 30) rfl (W.heap.size) [.int .i64 4,.int .i64 0,.int .i64 (k:Int),.string (mks (s.take k))] rfl rfl 67 _ hX0.out _ Tryz.sz67 (by first | rfl | simp) (by first | rfl | simp) (by first | rfl | simp [Value.oneCell']) ?_;intro w6 hr6 hg6 hz6)))
    have HX6:=Lib.hid ((HX.out.keep hBW).grown hg6 (by intro e;have:=Option.some.inj e;omega))
    have hB6:Below w.heap.size w w6:=Below.grown (HBd.trans (hBW.mono (by omega))) hg6 (by simp;omega) (fun k e=>by have:=Option.some.inj e;omega)
    have hz6':W.heap.size<w6.heap.size:=hr6.out.lt
    have c0:=hr6.out.cell' (i:=0) rfl
    have f0:=hr6.out.frozen 0
    have HR7:=Lib.hid (hr6.out.store 0 (.int .i64 3))
    have HX7:=Lib.hid (HX6.out.far (p:=⟨W.heap.size,0,none⟩) (by show w.heap.size≠W.heap.size;omega) (.int .i64 3))
    have hB7:Below w.heap.size w (w6.setCell ⟨W.heap.size,0,none⟩ (.int .i64 3)):=hB6.setCell (by show w.heap.size≤W.heap.size;omega) _
    have hz7:W.heap.size<(w6.setCell ⟨W.heap.size,0,none⟩ (.int .i64 3)).heap.size:=HR7.out.lt
    have c3:=HR7.out.cell' (i:=3) rfl
    have hok:=HW.out.keep hB7
    clear hX0 hBW hB6 hg6 hz6 HX6 HX hr6
    go_upto_region 8 with(first | (go_at_call 50;((with_reducible refine(DN0.out _).mono ?_));rintro e wn ⟨rfl,rfl⟩) | (go_at_call 54;((with_reducible refine(DP.out _ hok).mono ?_));rintro e w8 ⟨rfl,hb8⟩))
    have HR8:=Lib.hid (HR7.out.keep hb8)
    have HX8:=Lib.hid (HX7.out.keep hb8)
    have hB8:=hB7.trans (hb8.mono hB7.size)
    have hsz8:=hb8.size
    clear HR7 HX7 hB7 hb8 c0 f0 c3 hok
    by_cases hp3:pv.2=3
    ·have hp3':(pv.2 == 3)=true:=by simp [hp3]
     have hx:x=(noTok,12):=by rw [←HV.out,if_pos hp3]
     subst hx
     clear HV hp3
     go_wp2_with ((with_reducible show wpList _ _ _ (Oper.mk none (Op.store 67 (Operand.tmp 2) (Operand.tmp 43)) _ _ _ _ :: _) _ _);go_loud (refine wpList_sr rfl rfl 67 (.tmp 2) (.tmp 43) rfl (w.heap.size) zTok rfl rfl 67 _ HX8.out _ Tryz.sz67 (by first | rfl | simp) (by first | rfl | simp) (by first | rfl | simp [Value.oneCell']) ?_;intro w9 hr9 hg9 hz9))
     have r0:=hr9.out.cell' (i:=0) rfl
     have r1:=hr9.out.cell' (i:=1) rfl
     have r2:=hr9.out.cell' (i:=2) rfl
     have r3:=hr9.out.cell' (i:=3) rfl
     refine bodyPost_ret (v:=.tuple #[.agg zTok.toArray,.int .i64 12]) (by simp [results,Tryz.results51,go_sem,r0,r1,r2,r3]) rfl ?_
     exact⟨rfl,hB8.grown hg9 hB8.size (fun k e=>by have:=Option.some.inj e;omega)⟩
    ·have hp3':(pv.2 == 3)=false:=by simpa using hp3
     have hx:x=(⟨3,0,k,s.take k⟩,0):=by rw [←HV.out,if_neg hp3]
     subst hx
     clear HV hp3
     go_wp2_with (first | ((with_reducible show wpList _ _ _ (Oper.mk _ (Op.load 67 (Operand.tmp 5)) _ _ _ _ :: _) _ _);go_loud (refine wpList_lr rfl 67 (.tmp 5) rfl (W.heap.size) [.int .i64 3,.int .i64 0,.int .i64 (k:Int),.string (mks (s.take k))] rfl 67 HR8.out _ Tryz.underlying67 (by simp) _ Tryz.sz67 (by first | rfl | simp) ?_)) | ((with_reducible show wpList _ _ _ (Oper.mk none (Op.store 67 (Operand.tmp 2) (Operand.tmp 58)) _ _ _ _ :: _) _ _);go_loud (refine wpList_sr rfl rfl 67 (.tmp 2) (.tmp 58) rfl (w.heap.size) [.int .i64 3,.int .i64 0,.int .i64 (k:Int),.string (mks (s.take k))] rfl rfl 67 _ HX8.out _ Tryz.sz67 (by first | rfl | simp) (by first | rfl | simp) (by first | rfl | simp [Value.oneCell']) ?_;intro w9 hr9 hg9 hz9)))
     have r0:=hr9.out.cell' (i:=0) rfl
     have r1:=hr9.out.cell' (i:=1) rfl
     have r2:=hr9.out.cell' (i:=2) rfl
     have r3:=hr9.out.cell' (i:=3) rfl
     refine bodyPost_ret (v:=.tuple #[.agg #[.int .i64 3,.int .i64 0,.int .i64 (k:Int),.string (mks (s.take k))],.int .i64 0]) (by simp [results,Tryz.results51,go_sem,r0,r1,r2,r3]) rfl ?_
     exact⟨rfl,hB8.grown hg9 hB8.size (fun k e=>by have:=Option.some.inj e;omega)⟩
set_option maxRecDepth 8000 in
set_option maxHeartbeats 4000000 in
theorem seq_word (s:List Nat) (c:Nat) (hs:By s) (hl:s.length<4294967281) (hc:s[0]? = some c) (hn:numB c=false) (w:World) (hw:LibOK w):Calls Tryz.prog 51 #[.string (mks s)] w (TokR w (seqV s)):=by
 have hd:s.getD 0 0=c:=by simp [List.getD,hc]
 have hv:seqV s=if (s.take (seqN s)=litTrue∨s.take (seqN s)=litFalse∨s.take (seqN s)=litNull) then (⟨4,0,seqN s,s.take (seqN s)⟩,0) else (noTok,4):=by
  unfold seqV
  rw [hd,if_neg (by simp [hn])]
 rw [hv]
 have hN:=seqN_le s
 have HQ0:Hid (0+seqN (s.drop 0)=seqN s):=by show _=_;simp
 have hcb:=hs.get hc
 have hlen:0<s.length:=(List.getElem?_eq_some_iff.1 hc).1
 have h0:((mks s)[0]'(by rw [size_mks];exact hlen)).toNat=c:=get_mks hc hcb _
 have DN0:=numeric_h c hcb
 rw [hn] at DN0
 clear hv hc hd hn
 generalize seqN s=N at *
 generalize hx:(if (s.take N=litTrue∨s.take N=litFalse∨s.take N=litNull) then ((⟨4,0,N,s.take N⟩:JTok),0) else (noTok,4))=x
 have HV:=Lib.hid hx
 clear hx
 have HW:=Lib.hid hw
 clear hw
 have HX:=Lib.hid (Arr.new w 67 zTok)
 have HBd:Below w.heap.size w (w.alloc (.cells #[.int .i64 0,.int .i64 0,.int .i64 0,.string ⟨#[]⟩] 67)):=(Below.refl _ _).alloc (Nat.le_refl _) _
 go_enter Tryz.func51,Tryz.ntmps51
 go_upto_region 1 with(fail)
 have hlow:w.heap.size<(w.alloc (.cells #[.int .i64 0,.int .i64 0,.int .i64 0,.string ⟨#[]⟩] 67)).heap.size:=HX.out.lt
 change Hid (Arr (w.alloc (.cells #[.int .i64 0,.int .i64 0,.int .i64 0,.string ⟨#[]⟩] 67)) w.heap.size 67 zTok) at HX
 generalize (w.alloc (.cells #[.int .i64 0,.int .i64 0,.int .i64 0,.string ⟨#[]⟩] 67))=W at *
 go_wp2
 go_loopw [4] (fun nv wr=>∃k:Nat,k≤s.length∧nv=.int .i64 (k:Int)∧Hid (k+seqN (s.drop k)=N)∧W=wr) (fun nv _=>s.length - (intOf nv).toNat)
 case atStart=>exact⟨0,by omega,rfl,HQ0,rfl⟩
 case round=>
  clear HQ0
  obtain⟨k,hk,rfl,hq,rfl⟩:=hrel
  have hcases:(∃hp:k<s.length,∃d,((mks s)[k]'(by rw [size_mks];exact hp)).toNat=d∧d<256∧(letB d || numB d)=true∧Hid (k+1+seqN (s.drop (k+1))=N)) ∨
    (k=N∧((∃hp:k<s.length,∃d,((mks s)[k]'(by rw [size_mks];exact hp)).toNat=d∧d<256∧(letB d || numB d)=false)∨¬(k:Int)<s.length)):=by
   by_cases hlt:k<s.length
   ·obtain⟨d,hd⟩:∃d,s[k]? = some d:=⟨_,List.getElem?_eq_getElem hlt⟩
    have gd:=get_mks hd (hs.get hd) (by rw [size_mks];exact hlt)
    rcases seqN_step hd hq.out with⟨h1,h2⟩ | ⟨h1,h2⟩
    ·exact .inl ⟨hlt,d,gd,hs.get hd,h1,h2⟩
    ·exact .inr ⟨h2,.inl ⟨hlt,d,gd,hs.get hd,h1⟩⟩
   ·obtain rfl:k=s.length:=by omega
    have h:=hq.out
    rw [List.drop_length,seqN] at h
    exact .inr ⟨by omega,.inr (by omega)⟩
  clear hq
  rcases hcases with⟨hlt,d,gd,hdb,hb,hq⟩ | ⟨rfl,hstop⟩
  ·have DL:=letter_h d hdb
   have DN:=numeric_h d hdb
   cases h1:letB d
   all_goals
    rw [h1] at DL hb
    simp only [Bool.false_or,Bool.true_or] at hb
    first | rw [hb] at DN | skip
    clear h1 hb
    go_wp2_with (first | (go_at_call 49;((with_reducible refine(DL.out _).mono ?_));rintro e wn ⟨rfl,rfl⟩) | (go_at_call 50;((with_reducible refine(DN.out _).mono ?_));rintro e wn ⟨rfl,rfl⟩))
    go_roundw
    case rel=>exact⟨k+1,by omega,by go_num,hq,trivial⟩
    case measure=>simp [intOf];omega
  ·have hX0:=Lib.hid (Arr.new W 67 zTok)
   have hBW:Below W.heap.size W (W.alloc (.cells #[.int .i64 0,.int .i64 0,.int .i64 0,.string ⟨#[]⟩] 67)):=(Below.refl _ _).alloc (Nat.le_refl _) _
   have hkl:(k:Int)≤s.length:=by omega
   have hstop2:(∃hp:k<s.length,∃d,((mks s)[k]'(by rw [size_mks];exact hp)).toNat=d∧(∀w,Calls Tryz.prog 49 #[.int .u8 (d:Int)] w fun e w'=>e=.returned (.bool false)∧w=w')∧(∀w,Calls Tryz.prog 50 #[.int .u8 (d:Int)] w fun e w'=>e=.returned (.bool false)∧w=w'))∨¬(k:Int)<s.length:=by
    rcases hstop with⟨hlt,d,gd,hdb,hb⟩ | h
    ·have DL:=letter_h d hdb
     have DN:=numeric_h d hdb
     rw [Bool.or_eq_false_iff] at hb
     rw [hb.1] at DL
     rw [hb.2] at DN
     exact .inl ⟨hlt,d,gd,DL.out,DN.out⟩
    ·exact .inr h
   clear hstop
   rcases hstop2 with⟨hlt,d,gd,DL,DN⟩ | hge
   all_goals
    try have DL:=Lib.hid DL
    try have DN:=Lib.hid DN
    go_upto_region 5 with(first | (go_at_call 49;((with_reducible refine(DL.out _).mono ?_));rintro e wn ⟨rfl,rfl⟩) | (go_at_call 50;((with_reducible refine(DN.out _).mono ?_));rintro e wn ⟨rfl,rfl⟩) | ((with_reducible show wpList _ _ _ (Oper.mk none (Op.store 67 (Operand.tmp 5) (Operand.tmp 30)) _ _ _ _ :: _) _ _);go_loud (refine wpList_sr rfl rfl 67 (.tmp 5) (.tmp 30) rfl (W.heap.size) [.int .i64 4,.int .i64 0,.int .i64 (k:Int),.string (mks (s.take k))] rfl rfl 67 _ hX0.out _ Tryz.sz67 (by first | rfl | simp) (by first | rfl | simp) (by first | rfl | simp [Value.oneCell']) ?_;intro w6 hr6 hg6 hz6)))
    have HX6:=Lib.hid ((HX.out.keep hBW).grown hg6 (by intro e;have:=Option.some.inj e;omega))
    have hB6:Below w.heap.size w w6:=Below.grown (HBd.trans (hBW.mono (by omega))) hg6 (by simp;omega) (fun k e=>by have:=Option.some.inj e;omega)
    have hz6':W.heap.size<w6.heap.size:=hr6.out.lt
    have c3:=hr6.out.cell' (i:=3) rfl
    go_upto_region 10 with(first | (go_at_call 50;((with_reducible refine(DN0.out _).mono ?_));rintro e wn ⟨rfl,rfl⟩))
    have i1:=toL_iff (hs.take k) [116,114,117,101]
    have i2:=toL_iff (hs.take k) [102,97,108,115,101]
    have i3:=toL_iff (hs.take k) [110,117,108,108]
    have hwd:((s.take k=litTrue∨s.take k=litFalse∨s.take k=litNull)∧((mks (s.take k)).toList = [116,114,117,101]∨(¬(mks (s.take k)).toList = [116,114,117,101]∧(mks (s.take k)).toList = [102,97,108,115,101])∨(¬(mks (s.take k)).toList = [116,114,117,101]∧¬(mks (s.take k)).toList = [102,97,108,115,101]∧(mks (s.take k)).toList = [110,117,108,108]))) ∨
      (¬(s.take k=litTrue∨s.take k=litFalse∨s.take k=litNull)∧(¬(mks (s.take k)).toList = [116,114,117,101]∧¬(mks (s.take k)).toList = [102,97,108,115,101]∧¬(mks (s.take k)).toList = [110,117,108,108])):=by
     rw [i1,i2,i3]
     show(((s.take k=litTrue∨s.take k=litFalse∨s.take k=litNull)∧(s.take k=litTrue∨(¬s.take k=litTrue∧s.take k=litFalse)∨(¬s.take k=litTrue∧¬s.take k=litFalse∧s.take k=litNull))))∨(¬(s.take k=litTrue∨s.take k=litFalse∨s.take k=litNull)∧(¬s.take k=litTrue∧¬s.take k=litFalse∧¬s.take k=litNull))
     exact three _ _ _
    clear i1 i2 i3
    rcases hwd with⟨hy,hw⟩ | ⟨hy,hw1,hw2,hw3⟩
    ·have hx:x=(⟨4,0,k,s.take k⟩,0):=by rw [←HV.out,if_pos hy]
     subst hx
     clear HV hy
     rcases hw with hw1 | ⟨hw1,hw2⟩ | ⟨hw1,hw2,hw3⟩
     all_goals
      go_wp2_with (first | ((with_reducible show wpList _ _ _ (Oper.mk _ (Op.load 67 (Operand.tmp 5)) _ _ _ _ :: _) _ _);go_loud (refine wpList_lr rfl 67 (.tmp 5) rfl (W.heap.size) [.int .i64 4,.int .i64 0,.int .i64 (k:Int),.string (mks (s.take k))] rfl 67 hr6.out _ Tryz.underlying67 (by simp) _ Tryz.sz67 (by first | rfl | simp) ?_)) | ((with_reducible show wpList _ _ _ (Oper.mk none (Op.store 67 (Operand.tmp 2) (Operand.tmp 58)) _ _ _ _ :: _) _ _);go_loud (refine wpList_sr rfl rfl 67 (.tmp 2) (.tmp 58) rfl (w.heap.size) [.int .i64 4,.int .i64 0,.int .i64 (k:Int),.string (mks (s.take k))] rfl rfl 67 _ HX6.out _ Tryz.sz67 (by first | rfl | simp) (by first | rfl | simp) (by first | rfl | simp [Value.oneCell']) ?_;intro w9 hr9 hg9 hz9)))
      have r0:=hr9.out.cell' (i:=0) rfl
      have r1:=hr9.out.cell' (i:=1) rfl
      have r2:=hr9.out.cell' (i:=2) rfl
      have r3:=hr9.out.cell' (i:=3) rfl
      refine bodyPost_ret (v:=.tuple #[.agg #[.int .i64 4,.int .i64 0,.int .i64 (k:Int),.string (mks (s.take k))],.int .i64 0]) (by simp [results,Tryz.results51,go_sem,r0,r1,r2,r3]) rfl ?_
      exact⟨rfl,hB6.grown hg9 hB6.size (fun k e=>by have:=Option.some.inj e;omega)⟩
    ·have hx:x=(noTok,4):=by rw [←HV.out,if_neg hy]
     subst hx
     clear HV hy
     have hw1:((mks (s.take k)).toList == [116,114,117,101])=false:=beq_eq_false_iff_ne.2 hw1
     have hw2:((mks (s.take k)).toList == [102,97,108,115,101])=false:=beq_eq_false_iff_ne.2 hw2
     have hw3:((mks (s.take k)).toList == [110,117,108,108])=false:=beq_eq_false_iff_ne.2 hw3
     go_wp2_with ((with_reducible show wpList _ _ _ (Oper.mk none (Op.store 67 (Operand.tmp 2) (Operand.tmp 57)) _ _ _ _ :: _) _ _);go_loud (refine wpList_sr rfl rfl 67 (.tmp 2) (.tmp 57) rfl (w.heap.size) zTok rfl rfl 67 _ HX6.out _ Tryz.sz67 (by first | rfl | simp) (by first | rfl | simp) (by first | rfl | simp [Value.oneCell']) ?_;intro w9 hr9 hg9 hz9))
     have r0:=hr9.out.cell' (i:=0) rfl
     have r1:=hr9.out.cell' (i:=1) rfl
     have r2:=hr9.out.cell' (i:=2) rfl
     have r3:=hr9.out.cell' (i:=3) rfl
     refine bodyPost_ret (v:=.tuple #[.agg zTok.toArray,.int .i64 4]) (by simp [results,Tryz.results51,go_sem,r0,r1,r2,r3]) rfl ?_
     exact⟨rfl,hB6.grown hg9 hB6.size (fun k e=>by have:=Option.some.inj e;omega)⟩
theorem sequence_any (s:List Nat) (c:Nat) (hs:By s) (hl:s.length<4294967281) (hc:s[0]? = some c) (w:World) (hw:LibOK w):Calls Tryz.prog 51 #[.string (mks s)] w (TokR w (seqV s)):=by
 cases hn:numB c with
 | true=>exact seq_num s c hs hl hc hn w hw
 | false=>exact seq_word s c hs hl hc hn w hw
end Go.Proofs.YtijoollonkibfaaGreatDoor
namespace Go.Proofs.YtijoollonkibfaaGreatDoor
open Go.RowKit
theorem lit_puncts:(ByteArray.mk #[123,125,91,93,58,44]:ByteArray)=mks [123,125,91,93,58,44]:=by simp [mks]
theorem lit_blanks:(ByteArray.mk #[32,9,13,10]:ByteArray)=mks [32,9,13,10]:=by simp [mks]
theorem punct_ix (c:Nat):(isPunct c=true∧0≤ixBV c [123,125,91,93,58,44])∨(isPunct c=false∧ixBV c [123,125,91,93,58,44] = -1):=by
 unfold isPunct ixBV idxB
 by_cases h1:123=c
 ·subst h1;simp
 by_cases h2:125=c
 ·subst h2;simp [idxB]
 by_cases h3:91=c
 ·subst h3;simp [idxB]
 by_cases h4:93=c
 ·subst h4;simp [idxB]
 by_cases h5:58=c
 ·subst h5;simp [idxB]
 by_cases h6:44=c
 ·subst h6;simp [idxB]
 right
 simp [idxB,h1,h2,h3,h4,h5,h6]
 omega
theorem blank_ix (c:Nat):(isBlank c=true∧0≤ixBV c [32,9,13,10])∨(isBlank c=false∧ixBV c [32,9,13,10] = -1):=by
 unfold isBlank ixBV idxB
 by_cases h1:32=c
 ·subst h1;simp
 by_cases h2:9=c
 ·subst h2;simp [idxB]
 by_cases h3:13=c
 ·subst h3;simp [idxB]
 by_cases h4:10=c
 ·subst h4;simp [idxB]
 right
 simp [idxB,h1,h2,h3,h4]
 omega
theorem ixPunct_h (c:Nat) (hc:c<256):Hid (∀w,Calls Tryz.prog 23 #[.string ⟨#[123,125,91,93,58,44]⟩,.int .u8 (c:Int)] w fun e w'=>e=.returned (.int .i64 (ixBV c [123,125,91,93,58,44]))∧w=w'):=fun w=>by
 rw [lit_puncts];exact indexByte_h _ (by intro x hx;simp at hx;omega) c hc w
theorem ixBlank_h (c:Nat) (hc:c<256):Hid (∀w,Calls Tryz.prog 23 #[.string ⟨#[32,9,13,10]⟩,.int .u8 (c:Int)] w fun e w'=>e=.returned (.int .i64 (ixBV c [32,9,13,10]))∧w=w'):=fun w=>by
 rw [lit_blanks];exact indexByte_h _ (by intro x hx;simp at hx;omega) c hc w
theorem quoted_h (l:List Nat) (hl:By l) (hlen:l.length<4294967281):Hid (∀w,Calls Tryz.prog 48 #[.string (mks l)] w (QuotR w (quotV l))):=fun w=>quoted_any l hl (by omega) w
theorem sequence_h (s:List Nat) (c:Nat) (hs:By s) (hl:s.length<4294967281) (hc:s[0]? = some c):Hid (∀w,LibOK w→Calls Tryz.prog 51 #[.string (mks s)] w (TokR w (seqV s))):=fun w hw=>sequence_any s c hs hl hc w hw
set_option maxRecDepth 8000 in
set_option maxHeartbeats 4000000 in
theorem token_any (s:List Nat) (c:Nat) (hs:By s) (hl:s.length<4294967281) (hc:s[0]? = some c) (w:World) (hw:LibOK w):Calls Tryz.prog 25 #[.string (mks s)] w (TokR w (tokV s)):=by
 have hd:s.getD 0 0=c:=by simp [List.getD,hc]
 have hcb:=hs.get hc
 have hlen:0<s.length:=(List.getElem?_eq_some_iff.1 hc).1
 have h0:((mks s)[0]'(by rw [size_mks];exact hlen)).toNat=c:=get_mks hc hcb _
 have hlen':(0:Int)<s.length:=by omega
 have hlen1:(1:Int)≤s.length:=by omega
 have DI:=ixPunct_h c hcb
 have DL:=letter_h c hcb
 have DN:=numeric_h c hcb
 have DS:=sequence_h s c hs hl hc
 have DQ:=quoted_h s hs hl
 have HW:=Lib.hid hw
 have HX:=Lib.hid (Arr.new w 67 zTok)
 have HBd:Below w.heap.size w (w.alloc (.cells #[.int .i64 0,.int .i64 0,.int .i64 0,.string ⟨#[]⟩] 67)):=(Below.refl _ _).alloc (Nat.le_refl _) _
 change Hid (Arr (w.alloc (.cells #[.int .i64 0,.int .i64 0,.int .i64 0,.string ⟨#[]⟩] 67)) w.heap.size 67 zTok) at HX
 generalize hx:tokV s=x
 have HV:Hid ((if isPunct c then (⟨1,0,1,s.take 1⟩,0) else if c=34 then (⟨2,0,(quotV s).2.1,(quotV s).1⟩,(quotV s).2.2) else if letB c || numB c then seqV s else (noTok,4))=x):=by
  show _=_;rw [←hx];unfold tokV;rw [hd]
 clear hx hd hw hc
 rcases punct_ix c with⟨hp,hi⟩ | ⟨hp,hi⟩
 ·have hx:=HV.out
  rw [if_pos hp] at hx
  subst hx
  clear HV hp
  generalize ixBV c [123,125,91,93,58,44]=pi at *
  go_enter Tryz.func25,Tryz.ntmps25
  go_upto_region 1 with(fail)
  have hlow:w.heap.size<(w.alloc (.cells #[.int .i64 0,.int .i64 0,.int .i64 0,.string ⟨#[]⟩] 67)).heap.size:=HX.out.lt
  generalize (w.alloc (.cells #[.int .i64 0,.int .i64 0,.int .i64 0,.string ⟨#[]⟩] 67))=W at *
  go_wp2_with (first | (go_at_call 23;((with_reducible refine(DI.out _).mono ?_));rintro e wn ⟨rfl,rfl⟩) | ((with_reducible show wpList _ _ _ (Oper.mk none (Op.store 67 (Operand.tmp 2) (Operand.tmp 16)) _ _ _ _ :: _) _ _);go_loud (refine wpList_sr rfl rfl 67 (.tmp 2) (.tmp 16) rfl (w.heap.size) [.int .i64 1,.int .i64 0,.int .i64 1,.string (mks (s.take 1))] rfl rfl 67 _ HX.out _ Tryz.sz67 (by first | rfl | simp) (by first | rfl | simp) (by first | rfl | simp [Value.oneCell']) ?_;intro w9 hr9 hg9 hz9)))
  have r0:=hr9.out.cell' (i:=0) rfl
  have r1:=hr9.out.cell' (i:=1) rfl
  have r2:=hr9.out.cell' (i:=2) rfl
  have r3:=hr9.out.cell' (i:=3) rfl
  refine bodyPost_ret (v:=.tuple #[.agg #[.int .i64 1,.int .i64 0,.int .i64 1,.string (mks (s.take 1))],.int .i64 0]) (by simp [results,Tryz.results25,go_sem,r0,r1,r2,r3]) rfl ?_
  exact⟨rfl,HBd.grown hg9 HBd.size (fun k e=>by have:=Option.some.inj e;omega)⟩
 ·have hx:=HV.out
  rw [if_neg (by simp [hp])] at hx
  clear HV hp
  have hi':ixBV c [123,125,91,93,58,44]<0:=by omega
  clear hi
  generalize ixBV c [123,125,91,93,58,44]=pi at *
  by_cases h34:c=34
  ·rw [if_pos h34] at hx
   subst hx
   have h34':((c:Int) == 34)=true:=by simp;omega
   clear h34
   generalize quotV s=q at *
   obtain⟨qt,qn,qe⟩:=q
   go_enter Tryz.func25,Tryz.ntmps25
   go_upto_region 1 with(fail)
   have hlow:w.heap.size<(w.alloc (.cells #[.int .i64 0,.int .i64 0,.int .i64 0,.string ⟨#[]⟩] 67)).heap.size:=HX.out.lt
   generalize (w.alloc (.cells #[.int .i64 0,.int .i64 0,.int .i64 0,.string ⟨#[]⟩] 67))=W at *
   go_wp2_with (first | (go_at_call 23;((with_reducible refine(DI.out _).mono ?_));rintro e wn ⟨rfl,rfl⟩) | (go_at_call 48;((with_reducible refine(DQ.out _).mono ?_));rintro e w8 ⟨rfl,hb8⟩) | ((with_reducible show wpList _ _ _ (Oper.mk none (Op.store 67 (Operand.tmp 2) (Operand.tmp 28)) _ _ _ _ :: _) _ _);go_loud (refine wpList_sr rfl rfl 67 (.tmp 2) (.tmp 28) rfl (w.heap.size) [.int .i64 2,.int .i64 0,.int .i64 (qn:Int),.string (mks qt)] rfl rfl 67 _ (HX.out.keep hb8) _ Tryz.sz67 (by first | rfl | simp) (by first | rfl | simp) (by first | rfl | simp [Value.oneCell']) ?_;intro w9 hr9 hg9 hz9)))
   have r0:=hr9.out.cell' (i:=0) rfl
   have r1:=hr9.out.cell' (i:=1) rfl
   have r2:=hr9.out.cell' (i:=2) rfl
   have r3:=hr9.out.cell' (i:=3) rfl
   refine bodyPost_ret (v:=.tuple #[.agg #[.int .i64 2,.int .i64 0,.int .i64 (qn:Int),.string (mks qt)],.int .i64 (qe:Int)]) (by simp [results,Tryz.results25,go_sem,r0,r1,r2,r3]) rfl ?_
   have hB8:=HBd.trans (hb8.mono HBd.size)
   exact⟨rfl,hB8.grown hg9 hB8.size (fun k e=>by have:=Option.some.inj e;omega)⟩
  ·rw [if_neg h34] at hx
   have h34':((c:Int) == 34)=false:=by simp;omega
   clear h34
   cases hln:letB c || numB c with
   | true=>
    rw [hln,if_pos rfl] at hx
    subst hx
    generalize seqV s=x at *
    obtain⟨⟨tk,tf,tt,tx⟩,te⟩:=x
    cases h1:letB c
    all_goals
     rw [h1] at DL hln
     simp only [Bool.false_or,Bool.true_or] at hln
     first | rw [hln] at DN | skip
     clear h1 hln
     go_enter Tryz.func25,Tryz.ntmps25
     go_upto_region 1 with(fail)
     have hlow:w.heap.size<(w.alloc (.cells #[.int .i64 0,.int .i64 0,.int .i64 0,.string ⟨#[]⟩] 67)).heap.size:=HX.out.lt
     have hok:=HW.out.keep HBd
     generalize (w.alloc (.cells #[.int .i64 0,.int .i64 0,.int .i64 0,.string ⟨#[]⟩] 67))=W at *
     go_wp2_with (first | (go_at_call 23;((with_reducible refine(DI.out _).mono ?_));rintro e wn ⟨rfl,rfl⟩) | (go_at_call 49;((with_reducible refine(DL.out _).mono ?_));rintro e wn ⟨rfl,rfl⟩) | (go_at_call 50;((with_reducible refine(DN.out _).mono ?_));rintro e wn ⟨rfl,rfl⟩) | (go_at_call 51;((with_reducible refine(DS.out _ hok).mono ?_));rintro e w8 ⟨rfl,hb8⟩) | ((with_reducible show wpList _ _ _ (Oper.mk none (Op.store 67 (Operand.tmp 2) (Operand.tmp 39)) _ _ _ _ :: _) _ _);go_loud (refine wpList_sr rfl rfl 67 (.tmp 2) (.tmp 39) rfl (w.heap.size) [.int .i64 (tk:Int),.int .i64 (tf:Int),.int .i64 (tt:Int),.string (mks tx)] rfl rfl 67 _ (HX.out.keep hb8) _ Tryz.sz67 (by first | rfl | simp) (by first | rfl | simp) (by first | rfl | simp [Value.oneCell']) ?_;intro w9 hr9 hg9 hz9)))
     have r0:=hr9.out.cell' (i:=0) rfl
     have r1:=hr9.out.cell' (i:=1) rfl
     have r2:=hr9.out.cell' (i:=2) rfl
     have r3:=hr9.out.cell' (i:=3) rfl
     refine bodyPost_ret (v:=.tuple #[.agg #[.int .i64 (tk:Int),.int .i64 (tf:Int),.int .i64 (tt:Int),.string (mks tx)],.int .i64 (te:Int)]) (by simp [results,Tryz.results25,go_sem,r0,r1,r2,r3]) rfl ?_
     have hB8:=HBd.trans (hb8.mono HBd.size)
     exact⟨rfl,hB8.grown hg9 hB8.size (fun k e=>by have:=Option.some.inj e;omega)⟩
   | false=>
    rw [hln,if_neg (by simp)] at hx
    subst hx
    rw [Bool.or_eq_false_iff] at hln
    rw [hln.1] at DL
    rw [hln.2] at DN
    clear hln
    go_enter Tryz.func25,Tryz.ntmps25
    go_upto_region 1 with(fail)
    have hlow:w.heap.size<(w.alloc (.cells #[.int .i64 0,.int .i64 0,.int .i64 0,.string ⟨#[]⟩] 67)).heap.size:=HX.out.lt
    generalize (w.alloc (.cells #[.int .i64 0,.int .i64 0,.int .i64 0,.string ⟨#[]⟩] 67))=W at *
    go_wp2_with (first | (go_at_call 23;((with_reducible refine(DI.out _).mono ?_));rintro e wn ⟨rfl,rfl⟩) | (go_at_call 49;((with_reducible refine(DL.out _).mono ?_));rintro e wn ⟨rfl,rfl⟩) | (go_at_call 50;((with_reducible refine(DN.out _).mono ?_));rintro e wn ⟨rfl,rfl⟩) | ((with_reducible show wpList _ _ _ (Oper.mk none (Op.store 67 (Operand.tmp 2) (Operand.tmp 41)) _ _ _ _ :: _) _ _);go_loud (refine wpList_sr rfl rfl 67 (.tmp 2) (.tmp 41) rfl (w.heap.size) zTok rfl rfl 67 _ HX.out _ Tryz.sz67 (by first | rfl | simp) (by first | rfl | simp) (by first | rfl | simp [Value.oneCell']) ?_;intro w9 hr9 hg9 hz9)))
    have r0:=hr9.out.cell' (i:=0) rfl
    have r1:=hr9.out.cell' (i:=1) rfl
    have r2:=hr9.out.cell' (i:=2) rfl
    have r3:=hr9.out.cell' (i:=3) rfl
    refine bodyPost_ret (v:=.tuple #[.agg zTok.toArray,.int .i64 4]) (by simp [results,Tryz.results25,go_sem,r0,r1,r2,r3]) rfl ?_
    exact⟨rfl,HBd.grown hg9 HBd.size (fun k e=>by have:=Option.some.inj e;omega)⟩
end Go.Proofs.YtijoollonkibfaaGreatDoor
