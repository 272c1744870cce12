/- The walk of strings.Repeat at one byte, many times. -/
import Derived.Test.YtgbkbgiogdhnaaaGreatDoorNLa
import Derived.Test.YtgbkbgiogdhnaaaGreatDoorNEh
import Derived.IntWalk
set_option linter.unusedVariables false
set_option linter.unusedSimpArgs false
set_option linter.defProp false
set_option linter.constructorNameAsVariable false
namespace Go.Proofs.YtgbkbgiogdhnaaaGreatDoor
open Go.RowKit
def GrowT:Prop:=∀(B b n:Nat) (w:World),B≤b→w.heap[b]? = some (.cells #[.pointer none,.slice none 0 0] 52 (0,0))→B≤w.heap.size→n≤281474976710656 →
 Calls Tryz.prog 15 #[.pointer (some ⟨b,0,none⟩),.int .i64 n] w fun e w'=>e=.returned (.tuple #[])∧(Lib.BuilderAt 52 5 B b (.pointer (some ⟨b,0,none⟩)) [] w'∧Below B w w')
def LenT:Prop:=∀(B b:Nat) (bs:List Value) (w:World),Lib.IsBuilderF 52 5 B b bs w →
 Calls Tryz.prog 17 #[.pointer (some ⟨b,0,none⟩)] w fun e w'=>e=.returned (.int .i64 bs.length)∧w'=w
def lenB (b:Nat) (w:World):Nat:=match w.cell? ⟨b,1,none⟩ with
 | some (.slice _ n _)=>n
 | _=>0
theorem lenB_of {B b:Nat} {bs:List Value} {w:World} (h:BldU B b bs w):lenB b w=bs.length:=by
 obtain⟨hB,v,hbk,hown,hne⟩:=h
 have c1:w.cell? ⟨b,1,none⟩=some v:=by rw [Lib.cell_of_heap hbk];rfl
 unfold lenB
 rw [c1]
 rcases hown.2 with⟨hv,h0⟩ | ⟨g,cap,cur,fz,hv,_⟩
 ·rw [hv];simp only;omega
 ·rw [hv]
theorem rep_take {c j m:Nat} (h:m≤j):(List.replicate j c).take m=List.replicate m c:=by rw [List.take_replicate,Nat.min_eq_left h]
theorem rep_add (c j m:Nat):List.replicate j c ++ List.replicate m c=List.replicate (j+m) c:=by rw [List.replicate_append_replicate]
set_option maxRecDepth 100000 in
set_option maxHeartbeats 8000000 in
theorem repeat_one (HG:GrowT) (HL:LenT) (c k:Nat) (hc:c=120∨c=10) (hk1:8193≤k) (hk2:k≤70000) (w:World) :
  Calls Tryz.prog 5 #[.string (mks [c]),.int .i64 (k:Int)] w fun e w'=>e=.returned (.string (mks (List.replicate k c)))∧Below w.heap.size w w':=by
 have hcb:c<256:=by omega
 have hbr:∀j,By (List.replicate j c):=fun j x hx=>by rw [List.eq_of_mem_replicate hx];exact hcb
 have DM:Hid (∀w,Calls Tryz.prog 13 #[.int .u64 1,.int .u64 (k:Int)] w fun e w'=>e=.returned (.tuple #[.int .u64 0,.int .u64 (k:Int)])∧w=w'):=fun w=>by
  refine(Tryz.bits_Mul 1 k (by omega) (by omega) w).mono ?_
  rintro e w' ⟨h1,h2⟩
  refine⟨?_,h2.symm⟩
  rw [h1,Nat.one_mul,Nat.div_eq_of_lt (by omega),Nat.mod_eq_of_lt (by omega)]
  rfl
 unfold GrowT at HG
 unfold LenT at HL
 have DG:=Lib.hid HG
 have DL:=Lib.hid HL
 have HBR:=Lib.hid hbr
 have k0:((k:Int) == 0)=false:=by simp;omega
 have k1:((k:Int) == 1)=false:=by simp;omega
 have k2:¬(k:Int)<0:=by omega
 have k3:IntKind.u64.wrap (k:Int)=k:=by rw [IntKind.wrap_u64];omega
 have k4:¬(k:Int) > 9223372036854775807:=by omega
 have k5:IntKind.i64.wrap (k:Int)=k:=IntWalk.i64_in _ (by omega)
 have k6:(k:Int) > 8192:=by omega
 have g0:((mks [c])[0]'(by rw [size_mks];simp)).toNat=c:=get_mks (l:=[c]) (i:=0) rfl hcb _
 have e1:((c:Int) == 32)=false:=by simp;omega
 have e2:((c:Int) == 45)=false:=by simp;omega
 have e3:((c:Int) == 48)=false:=by simp;omega
 have e4:((c:Int) == 61)=false:=by simp;omega
 have e5:((c:Int) == 9)=false:=by simp;omega
 clear HG HL hbr hc
 go_enter Tryz.func5,Tryz.ntmps5
 go_upto_region 35 with(go_at_call 13;((with_reducible refine(DM.out _).mono ?_));rintro e w5 ⟨rfl,rfl⟩)
 have h0:Hid ((w.alloc (.cells #[.pointer none,.slice none 0 0] 52)).heap[w.heap.size]? = some (.cells #[.pointer none,.slice none 0 0] 52 (0,0))):=heap_alloc_new w _
 have hb0:Hid (Below w.heap.size w (w.alloc (.cells #[.pointer none,.slice none 0 0] 52))):=(Below.refl _ _).alloc (Nat.le_refl _) _
 go_upto_region 36 with(fail)
 generalize (w.alloc (.cells #[.pointer none,.slice none 0 0] 52))=W at *
 obtain⟨zz,hzz⟩:∃x,w.heap.size=x:=⟨_,rfl⟩
 have HZ:=Lib.hid hzz
 rw [hzz] at h0 hb0 ⊢
 have hzW:zz≤W.heap.size:=by have:=hb0.out.size;omega
 clear hzz
 have hk3:k≤281474976710656:=by omega
 have hs1:Hid (Lib.strCells (mks [c])=B8 (List.replicate 1 c)):=by
  show _=_
  rw [str_B8 (by intro x hx;simp at hx;omega)]
  rfl
 have hl1:(([]:List Value)).length+(mks [c]).size≤140737488355328:=by rw [size_mks];simp
 have HL1:=Lib.hid hl1
 clear hl1
 go_upto_region 38 with(first
  | (go_at_call 15;((with_reducible refine(DG.out zz zz k W (Nat.le_refl _) h0.out hzW hk3).mono ?_));rintro e w1 ⟨rfl,hB1,hb1⟩;have hF1:Hid (BldF zz zz [] w1):=Lib.hid (.inr (Lib.BuilderAtF.of hB1));have hz1:=Nat.le_trans hzW hb1.size)
  | (go_at_call 16;((with_reducible refine(bld_string zz zz [] (mks [c]) w1 hF1.out HL1.out hz1).mono ?_));rintro e w2 ⟨rfl,hU2,hb2⟩))
 have hU3:Hid (BldU zz zz (B8 (List.replicate 1 c)) w2):=by
  have h:=hU2
  rw [hs1.out,List.nil_append] at h
  exact h
 have hB3:=Lib.hid ((hb0.out.trans hb1).trans hb2)
 clear hU2 hB1 hF1 hb1 hb2 h0 hb0 DG DM HL1 hs1
 go_loopw [10] (fun _ wr=>∃(j:Nat),1≤j∧j≤k∧Hid (BldU zz zz (B8 (List.replicate j c)) wr)∧Hid (Below zz w wr)) (fun _ wr=>k - lenB zz wr)
 case atStart=>exact⟨1,Nat.le_refl _,by omega,hU3,hB3⟩
 case round=>
  clear hU3 hB3
  obtain⟨j,hj1,hjk,hU,hB⟩:=hrel
  have hlj:=lenB_of hU.out
  rw [len_B8,List.length_replicate] at hlj
  have HLJ:=Lib.hid hlj
  clear hlj
  have DLj:Hid (Calls Tryz.prog 17 #[.pointer (some ⟨zz,0,none⟩)] wr fun e w'=>e=.returned (.int .i64 (j:Int))∧wr=w'):=by
   refine(DL.out zz zz _ wr (.inr hU.out)).mono ?_
   rintro e w' ⟨h1,h2⟩
   rw [len_B8,List.length_replicate] at h1
   exact⟨h1,h2.symm⟩
  have hzr:zz≤wr.heap.size:=by have:=hB.out.size;have:=HZ.out;omega
  have DSj:Hid (Calls Tryz.prog 18 #[.pointer (some ⟨zz,0,none⟩)] wr fun e w'=>e=.returned (.string (mks (List.replicate j c)))∧BldF zz zz (B8 (List.replicate j c)) w'∧Below zz wr w'):=by
   have h:=hU.out
   rw [B8_bytes (HBR.out j)] at h
   refine(Tryz.Builder_String_any_k zz zz _ wr (.inr h) hzr).mono ?_
   rintro e w' ⟨h1,h2,h3,_⟩
   rw [B8_bytes (HBR.out j)]
   exact⟨h1,h2,h3⟩
  by_cases he:j=k
  ·subst he
   have hn:¬(j:Int)<j:=by omega
   go_wp2_with (first | (go_at_call 17;((with_reducible refine DLj.out.mono ?_));rintro e w5 ⟨rfl,rfl⟩) | (go_at_call 18;((with_reducible refine DSj.out.mono ?_));rintro e w6 ⟨rfl,hF6,hb6⟩))
   go_ret
   exact⟨rfl,by rw [HZ.out];exact hB.out.trans hb6⟩
  ·have hlt:(j:Int)<k:=by omega
   obtain⟨m,hm⟩:∃m,min (min (k - j) j) 8192=m:=⟨_,rfl⟩
   have hm1:1≤m:=by omega
   have hmj:m≤j:=by omega
   have hmk:j+m≤k:=by omega
   have hmin:∀(ts:Array TypeId) (t:TypeId) (w:World),(Builtin.min_ ts t #[.int .i64 ((k:Int) - j),.int .i64 (j:Int),.int .i64 8192]).run Tryz.prog w=.ok (.int .i64 (m:Int)) w:=fun ts t w=>by
    simp [Builtin.min_,Builtin.min2]
    split <;> split <;> omega
   have hj0:(0:Int)≤m:=by omega
   have hj3:(m:Int)≤j:=by omega
   clear hm
   have hsm:Hid (Lib.strCells (mks (List.replicate m c))=B8 (List.replicate m c)):=str_B8 (HBR.out m)
   have hlm:(B8 (List.replicate j c)).length+(mks (List.replicate m c)).size≤140737488355328:=by rw [len_B8,size_mks,List.length_replicate,List.length_replicate];omega
   have HLM:=Lib.hid hlm
   have htk:(List.replicate j c).take m=List.replicate m c:=rep_take hmj
   have hlr:(List.replicate j c).length=j:=List.length_replicate
   clear hlm
   go_upto_region 40 with(go_at_call 17;((with_reducible refine DLj.out.mono ?_));rintro e w5 ⟨rfl,rfl⟩)
   go_wp2_with (first | (go_at_call 18;((with_reducible refine DSj.out.mono ?_));rintro e w6 ⟨rfl,hF6,hb6⟩;have hz6:=Nat.le_trans hzr hb6.size) | (go_at_call 16;((with_reducible refine(bld_string zz zz (B8 (List.replicate j c)) (mks (List.replicate m c)) w6 hF6 HLM.out hz6).mono ?_));rintro e w7 ⟨rfl,hU7,hb7⟩))
   have hU8:Hid (BldU zz zz (B8 (List.replicate (j+m) c)) w7):=by
    have h:=hU7
    rw [hsm.out,←B8_append,rep_add] at h
    exact h
   have hB8:=Lib.hid ((hB.out.trans hb6).trans hb7)
   go_roundw
   case rel=>exact⟨j+m,by omega,hmk,hU8,hB8⟩
   case measure=>
    have h:=lenB_of hU8.out
    rw [len_B8,List.length_replicate] at h
    have:=HLJ.out
    omega
end Go.Proofs.YtgbkbgiogdhnaaaGreatDoor
namespace Go.Proofs.YtgbkbgiogdhnaaaGreatDoor
open Go.RowKit
theorem lim_cases (l:List Nat):∃t e,limV2 l=(t,e)∧(e=0∧l.length≤65536∨e=6∧65536<l.length):=by
 unfold limV2
 by_cases h:65536<l.length
 ·rw [if_pos h];exact⟨_,_,rfl,.inr ⟨rfl,h⟩⟩
 ·rw [if_neg h];exact⟨_,_,rfl,.inl ⟨rfl,by omega⟩⟩
theorem sc_text {s:List Nat} (hl:s.length≤100000) (hv:checkV s=none) (w:World) (hw:LibE w):Calls Tryz.prog 8 #[.int .i64 5,.string (mks s)] w (LeafG w (gT s)):=by
 have hS:ScalC 5 s true:=by
  have h:=scal_text s (by omega)
  rw [hv] at h
  exact h
 refine(scalar23_any 5 s (by decide) (by decide) hS w hw).mono ?_
 rintro e w' ⟨nb,rfl,_,hB,hA⟩
 exact⟨nb,rfl,hB,grd_leaf (nd:=gT s) rfl rfl rfl hA.out⟩
set_option maxRecDepth 200000 in
set_option maxHeartbeats 16000000 in
theorem long_120 (hA:AwakeT) (HG:GrowT) (HL:LenT) (n:Nat) (hn:n<256) (w:World) (hw:LibE w) :
  Calls Tryz.prog 3 #[.int .u8 (n:Int),.bool false] w fun e w'=>e=.returned (.bool true)∧Below w.heap.size w w':=by
 obtain⟨k,hk⟩:∃k:Nat,(65532:Int)+(n:Int) % 5=(k:Int):=⟨65532+n % 5,by omega⟩
 have hk1:65532≤k:=by omega
 have hk2:k≤65532+4:=by omega
 have DR:Hid (∀w,Calls Tryz.prog 5 #[.string ⟨#[120]⟩,.int .i64 (k:Int)] w fun e w'=>e=.returned (.string (mks (List.replicate k 120)))∧Below w.heap.size w w'):=fun w=>repeat_one HG HL 120 k (by omega) (by omega) (by omega) w
 obtain⟨s,hs⟩:∃s,List.replicate k 120=s:=⟨_,rfl⟩
 have hsl:s.length=k:=by rw [←hs,List.length_replicate]
 have hsb:By s:=by rw [←hs];exact by_rep (by omega) k
 have hsv:checkV s=none:=by rw [←hs];exact vu_rep (by omega) k
 have hql:(quoteV s).length=1*k+2:=by rw [←hs,quote_x];try omega
 rw [hs] at DR
 have DQ:Hid (∀w,LibE w→Calls Tryz.prog 6 #[.string (mks s)] w fun e w'=>e=.returned (.tuple #[.string (mks (limV2 (quoteV s)).1),.int .i64 (limV2 (quoteV s)).2])∧Below w.heap.size w w'):=fun w hw=>by
  have h:=jquote_any s hsb (by omega) w hw.lib
  rw [show quoteR s=limV2 (quoteV s) by unfold quoteR;rw [if_pos hsv]] at h
  exact h
 have DS:=Lib.hid (fun w hw=>sc_text (s:=s) (by omega) hsv w hw)
 have hqb:By (quoteV s):=quote_by hsb
 have hq0:quoteV s≠[]:=by intro e;rw [e] at hql;simp at hql
 have DT:Hid (∀nb (w:World),LibE w→GRd w w.heap.size nb 0 [gT s]→Calls Tryz.prog 7 #[.agg #[.slice (some ⟨nb,0,none⟩) 1 1,.int .i64 0]] w fun e w'=>e=.returned (.tuple #[.string (mks (limV2 (quoteV s)).1),.int .i64 (limV2 (quoteV s)).2])∧Below w.heap.size w w'):=fun nb w hw hG=>by
  have h:=outLiteral_any (c:=1) (n:=1) rfl (out_text hsb (by omega) hsv) (prP_text s true) hqb hq0 (by omega) w hw hG
  rw [show quoteV s ++ endV true=quoteV s by simp [endV]] at h
  exact h
 have DP:Hid (∀nb (w:World),LibE w→GRd w w.heap.size nb 0 [gT s]→Calls Tryz.prog 9 #[.agg #[.slice (some ⟨nb,0,none⟩) 1 1,.int .i64 0]] w fun e w'=>e=.returned (.tuple #[.string (mks (limV2 (quoteV s ++ [10])).1),.int .i64 (limV2 (quoteV s ++ [10])).2])∧Below w.heap.size w w'):=fun nb w hw hG=>
  outPrint_any (c:=1) (n:=1) rfl (out_text hsb (by omega) hsv) (prP_text s false) hqb hq0 (by omega) w hw hG
 obtain⟨t1,c1,e1,hc1⟩:=lim_cases (quoteV s)
 obtain⟨t2,c2,e2,hc2⟩:=lim_cases (quoteV s ++ [10])
 rw [e1] at DQ DT
 rw [e2] at DP
 rw [List.length_append,List.length_singleton] at hc2
 rw [hql] at hc1 hc2
 unfold LeafG at DS
 obtain⟨q,hq⟩:∃q:Nat,(2:Int)+1*(k:Int)=(q:Int):=⟨2+1*k,by simp⟩
 have hqn:q=1*k+2:=by omega
 try simp only [Int.one_mul] at hq
 rw [←hqn] at hc1 hc2
 have HA:=Lib.hid (fun w' (h:LibE w')=>hA w' h)
 have HW:=Lib.hid hw
 clear hs hsl hsb hsv hql hqb hq0 e1 e2 hA hw HG HL hqn hn hk1 hk2
 have h4:(c1=0∧c2=0∧decide ((q:Int)≤65536)=true∧decide ((q:Int)+1≤65536)=true)∨(c1=0∧c2=6∧decide ((q:Int)≤65536)=true∧decide ((q:Int)+1≤65536)=false)∨(c1=6∧c2=6∧decide ((q:Int)≤65536)=false∧decide ((q:Int)+1≤65536)=false):=by
  simp only [decide_eq_true_eq,decide_eq_false_iff_not]
  omega
 obtain⟨Q,hQ⟩:∃Q:Int,(q:Int)=Q:=⟨_,rfl⟩
 rw [hQ] at h4 hq
 have hw1:IntKind.i64.wrap (Q+1)=Q+1:=IntWalk.i64_in _ (by omega)
 clear hc1 hc2 hQ
 rcases h4 with⟨rfl,rfl,hq1,hq2⟩ | ⟨rfl,rfl,hq1,hq2⟩ | ⟨rfl,rfl,hq1,hq2⟩
 all_goals
  go_enter Tryz.func3,Tryz.ntmps3
  go_upto_region 10 with(go_at_call 5;((with_reducible refine(DR.out _).mono ?_));rintro e w1 ⟨rfl,hb1⟩;have hw1:=Lib.hid (HW.out.keep hb1))
  go_upto_region 11 with(go_at_call 6;((with_reducible refine(DQ.out _ hw1.out).mono ?_));rintro e w2 ⟨rfl,hb2⟩;have hw2:=Lib.hid (hw1.out.keep hb2);have hB2:=Lib.hid (hb1.trans (hb2.mono hb1.size)))
  go_upto_region 12 with(first
   | (go_at_call 8;((with_reducible refine(DS.out _ hw2.out).mono ?_));rintro e w3 ⟨nb,rfl,hb3,hg3⟩;have hw3:=Lib.hid (hw2.out.keep hb3))
   | (go_at_call 7;((with_reducible refine(DT.out _ _ hw3.out hg3).mono ?_));rintro e w4 ⟨rfl,hb4⟩;have hw4:=Lib.hid (hw3.out.keep hb4);have hB4:=Lib.hid ((hB2.out.trans (hb3.mono hB2.out.size)).trans (hb4.mono (hB2.out.trans (hb3.mono hB2.out.size)).size))))
  go_upto_region 13 with(first
   | (go_at_call 8;((with_reducible refine(DS.out _ hw4.out).mono ?_));rintro e w5 ⟨nb2,rfl,hb5,hg5⟩;have hw5:=Lib.hid (hw4.out.keep hb5))
   | (go_at_call 9;((with_reducible refine(DP.out _ _ hw5.out hg5).mono ?_));rintro e w6 ⟨rfl,hb6⟩;have hw6:=Lib.hid (hw5.out.keep hb6);have hB6:=Lib.hid ((hB4.out.trans (hb5.mono hB4.out.size)).trans (hb6.mono (hB4.out.trans (hb5.mono hB4.out.size)).size))))
  go_wp2_with (go_at_call 10;((with_reducible refine(HA.out _ hw6.out).mono ?_));rintro e w7 ⟨rfl,hb7⟩)
  go_ret
  exact⟨rfl,hB6.out.trans (hb7.mono hB6.out.size)⟩
set_option maxRecDepth 200000 in
set_option maxHeartbeats 16000000 in
theorem long_10 (hA:AwakeT) (HG:GrowT) (HL:LenT) (n:Nat) (hn:n<256) (w:World) (hw:LibE w) :
  Calls Tryz.prog 3 #[.int .u8 (n:Int),.bool true] w fun e w'=>e=.returned (.bool true)∧Below w.heap.size w w':=by
 obtain⟨k,hk⟩:∃k:Nat,(32765:Int)+(n:Int) % 5=(k:Int):=⟨32765+n % 5,by omega⟩
 have hk1:32765≤k:=by omega
 have hk2:k≤32765+4:=by omega
 have DR:Hid (∀w,Calls Tryz.prog 5 #[.string ⟨#[10]⟩,.int .i64 (k:Int)] w fun e w'=>e=.returned (.string (mks (List.replicate k 10)))∧Below w.heap.size w w'):=fun w=>repeat_one HG HL 10 k (by omega) (by omega) (by omega) w
 obtain⟨s,hs⟩:∃s,List.replicate k 10=s:=⟨_,rfl⟩
 have hsl:s.length=k:=by rw [←hs,List.length_replicate]
 have hsb:By s:=by rw [←hs];exact by_rep (by omega) k
 have hsv:checkV s=none:=by rw [←hs];exact vu_rep (by omega) k
 have hql:(quoteV s).length=2*k+2:=by rw [←hs,quote_nl];try omega
 rw [hs] at DR
 have DQ:Hid (∀w,LibE w→Calls Tryz.prog 6 #[.string (mks s)] w fun e w'=>e=.returned (.tuple #[.string (mks (limV2 (quoteV s)).1),.int .i64 (limV2 (quoteV s)).2])∧Below w.heap.size w w'):=fun w hw=>by
  have h:=jquote_any s hsb (by omega) w hw.lib
  rw [show quoteR s=limV2 (quoteV s) by unfold quoteR;rw [if_pos hsv]] at h
  exact h
 have DS:=Lib.hid (fun w hw=>sc_text (s:=s) (by omega) hsv w hw)
 have hqb:By (quoteV s):=quote_by hsb
 have hq0:quoteV s≠[]:=by intro e;rw [e] at hql;simp at hql
 have DT:Hid (∀nb (w:World),LibE w→GRd w w.heap.size nb 0 [gT s]→Calls Tryz.prog 7 #[.agg #[.slice (some ⟨nb,0,none⟩) 1 1,.int .i64 0]] w fun e w'=>e=.returned (.tuple #[.string (mks (limV2 (quoteV s)).1),.int .i64 (limV2 (quoteV s)).2])∧Below w.heap.size w w'):=fun nb w hw hG=>by
  have h:=outLiteral_any (c:=1) (n:=1) rfl (out_text hsb (by omega) hsv) (prP_text s true) hqb hq0 (by omega) w hw hG
  rw [show quoteV s ++ endV true=quoteV s by simp [endV]] at h
  exact h
 have DP:Hid (∀nb (w:World),LibE w→GRd w w.heap.size nb 0 [gT s]→Calls Tryz.prog 9 #[.agg #[.slice (some ⟨nb,0,none⟩) 1 1,.int .i64 0]] w fun e w'=>e=.returned (.tuple #[.string (mks (limV2 (quoteV s ++ [10])).1),.int .i64 (limV2 (quoteV s ++ [10])).2])∧Below w.heap.size w w'):=fun nb w hw hG=>
  outPrint_any (c:=1) (n:=1) rfl (out_text hsb (by omega) hsv) (prP_text s false) hqb hq0 (by omega) w hw hG
 obtain⟨t1,c1,e1,hc1⟩:=lim_cases (quoteV s)
 obtain⟨t2,c2,e2,hc2⟩:=lim_cases (quoteV s ++ [10])
 rw [e1] at DQ DT
 rw [e2] at DP
 rw [List.length_append,List.length_singleton] at hc2
 rw [hql] at hc1 hc2
 unfold LeafG at DS
 obtain⟨q,hq⟩:∃q:Nat,(2:Int)+2*(k:Int)=(q:Int):=⟨2+2*k,by simp⟩
 have hqn:q=2*k+2:=by omega
 try simp only [Int.one_mul] at hq
 rw [←hqn] at hc1 hc2
 have HA:=Lib.hid (fun w' (h:LibE w')=>hA w' h)
 have HW:=Lib.hid hw
 clear hs hsl hsb hsv hql hqb hq0 e1 e2 hA hw HG HL hqn hn hk1 hk2
 have h4:(c1=0∧c2=0∧decide ((q:Int)≤65536)=true∧decide ((q:Int)+1≤65536)=true)∨(c1=0∧c2=6∧decide ((q:Int)≤65536)=true∧decide ((q:Int)+1≤65536)=false)∨(c1=6∧c2=6∧decide ((q:Int)≤65536)=false∧decide ((q:Int)+1≤65536)=false):=by
  simp only [decide_eq_true_eq,decide_eq_false_iff_not]
  omega
 obtain⟨Q,hQ⟩:∃Q:Int,(q:Int)=Q:=⟨_,rfl⟩
 rw [hQ] at h4 hq
 have hw1:IntKind.i64.wrap (Q+1)=Q+1:=IntWalk.i64_in _ (by omega)
 clear hc1 hc2 hQ
 rcases h4 with⟨rfl,rfl,hq1,hq2⟩ | ⟨rfl,rfl,hq1,hq2⟩ | ⟨rfl,rfl,hq1,hq2⟩
 all_goals
  go_enter Tryz.func3,Tryz.ntmps3
  go_upto_region 10 with(go_at_call 5;((with_reducible refine(DR.out _).mono ?_));rintro e w1 ⟨rfl,hb1⟩;have hw1:=Lib.hid (HW.out.keep hb1))
  go_upto_region 11 with(go_at_call 6;((with_reducible refine(DQ.out _ hw1.out).mono ?_));rintro e w2 ⟨rfl,hb2⟩;have hw2:=Lib.hid (hw1.out.keep hb2);have hB2:=Lib.hid (hb1.trans (hb2.mono hb1.size)))
  go_upto_region 12 with(first
   | (go_at_call 8;((with_reducible refine(DS.out _ hw2.out).mono ?_));rintro e w3 ⟨nb,rfl,hb3,hg3⟩;have hw3:=Lib.hid (hw2.out.keep hb3))
   | (go_at_call 7;((with_reducible refine(DT.out _ _ hw3.out hg3).mono ?_));rintro e w4 ⟨rfl,hb4⟩;have hw4:=Lib.hid (hw3.out.keep hb4);have hB4:=Lib.hid ((hB2.out.trans (hb3.mono hB2.out.size)).trans (hb4.mono (hB2.out.trans (hb3.mono hB2.out.size)).size))))
  go_upto_region 13 with(first
   | (go_at_call 8;((with_reducible refine(DS.out _ hw4.out).mono ?_));rintro e w5 ⟨nb2,rfl,hb5,hg5⟩;have hw5:=Lib.hid (hw4.out.keep hb5))
   | (go_at_call 9;((with_reducible refine(DP.out _ _ hw5.out hg5).mono ?_));rintro e w6 ⟨rfl,hb6⟩;have hw6:=Lib.hid (hw5.out.keep hb6);have hB6:=Lib.hid ((hB4.out.trans (hb5.mono hB4.out.size)).trans (hb6.mono (hB4.out.trans (hb5.mono hB4.out.size)).size))))
  go_wp2_with (go_at_call 10;((with_reducible refine(HA.out _ hw6.out).mono ?_));rintro e w7 ⟨rfl,hb7⟩)
  go_ret
  exact⟨rfl,hB6.out.trans (hb7.mono hB6.out.size)⟩
end Go.Proofs.YtgbkbgiogdhnaaaGreatDoor
