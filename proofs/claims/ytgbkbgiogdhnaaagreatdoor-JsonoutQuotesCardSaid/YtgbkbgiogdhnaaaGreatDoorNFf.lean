/- The walks of scalar and of token at a text. -/
import Derived.Test.YtgbkbgiogdhnaaaGreatDoorMAf
import Derived.Test.YtgbkbgiogdhnaaaGreatDoorMBe
import Derived.Test.YtgbkbgiogdhnaaaGreatDoorMBf
import Derived.Recover
import Derived.Defers
import Derived.StillTailTactics
set_option linter.unusedVariables false
set_option linter.unusedSimpArgs false
set_option linter.defProp false
set_option linter.constructorNameAsVariable false
namespace Go.Proofs.YtgbkbgiogdhnaaaGreatDoor
open Go.RowKit
abbrev zNodeQ:List Value:=[.int .i64 0,.string ⟨#[]⟩,.bool false,.slice none 0 0,.slice none 0 0]
set_option maxRecDepth 8000 in
set_option maxHeartbeats 4000000 in
theorem scalar_str {pb:Nat} (t:JTok) (hk:t.kind=2) (w:World):Calls Tryz.prog 57 #[.pointer (some ⟨pb,0,none⟩),.agg (tokC t).toArray] w fun e w'=>Below w.heap.size w w'∧e=.returned (.agg #[.int .i64 5,.string (mks t.text),.bool false,.slice none 0 0,.slice none 0 0]):=by
 have HT:=Lib.hid ((Arr.new w 118 (tokC t)).alloc (.cells #[.int .i64 0,.string ⟨#[]⟩,.bool false,.slice none 0 0,.slice none 0 0] 43))
 have hs1:(w.alloc (.cells (tokC t).toArray 118)).heap.size=w.heap.size+1:=by simp
 have HN0:=Arr.new (w.alloc (.cells (tokC t).toArray 118)) 43 zNodeQ
 rw [hs1] at HN0
 have HN:=Lib.hid HN0
 have HBd:Below w.heap.size w ((w.alloc (.cells (tokC t).toArray 118)).alloc (.cells #[.int .i64 0,.string ⟨#[]⟩,.bool false,.slice none 0 0,.slice none 0 0] 43)):=((Below.refl _ _).alloc (Nat.le_refl _) _).alloc (by simp) _
 change Hid (Arr ((w.alloc (.cells (tokC t).toArray 118)).alloc (.cells #[.int .i64 0,.string ⟨#[]⟩,.bool false,.slice none 0 0,.slice none 0 0] 43)) (w.heap.size+1) 43 zNodeQ) at HN
 clear HN0 hs1
 obtain⟨kd,fr,to_,tx⟩:=t
 simp only at hk
 have hk2:((kd:Int) == 2)=true:=by simp;omega
 clear hk
 go_enter Tryz.func57,Tryz.ntmps57
 go_upto_region 1 with(fail)
 generalize ((w.alloc (.cells (tokC ⟨kd,fr,to_,tx⟩).toArray 118)).alloc (.cells #[.int .i64 0,.string ⟨#[]⟩,.bool false,.slice none 0 0,.slice none 0 0] 43))=W at *
 change Hid (Arr W w.heap.size 118 [.int .i64 (kd:Int),.int .i64 (fr:Int),.int .i64 (to_:Int),.string (mks tx)]) at HT
 have hlow:w.heap.size+1<W.heap.size:=HN.out.lt
 have t0:=HT.out.cell' (i:=0) rfl
 have t3:=HT.out.cell' (i:=3) rfl
 go_wp2_with ((with_reducible show wpList _ _ _ (Oper.mk none (Op.store 43 (Operand.tmp 4) (Operand.tmp 14)) _ _ _ _ :: _) _ _);go_loud (refine wpList_sr rfl rfl 43 (.tmp 4) (.tmp 14) rfl (w.heap.size+1) [.int .i64 5,.string (mks tx),.bool false,.slice none 0 0,.slice none 0 0] rfl rfl 43 _ HN.out _ Tryz.sz43 (by first | rfl | simp) (by first | rfl | simp) (by first | rfl | simp [Value.oneCell']) ?_;intro w9 hr9 hg9 hz9))
 have r0:=hr9.out.cell' (i:=0) rfl
 have r1:=hr9.out.cell' (i:=1) rfl
 have r2:=hr9.out.cell' (i:=2) rfl
 have r3:=hr9.out.cell' (i:=3) rfl
 have r4:=hr9.out.cell' (i:=4) rfl
 refine bodyPost_ret (v:=.agg #[.int .i64 5,.string (mks tx),.bool false,.slice none 0 0,.slice none 0 0]) (by simp [results,Tryz.results57,go_sem,r0,r1,r2,r3,r4]) rfl ?_
 exact⟨HBd.grown hg9 HBd.size (fun k e=>by have:=Option.some.inj e;omega),rfl⟩
set_option maxRecDepth 8000 in
set_option maxHeartbeats 4000000 in
theorem token_str (s:List Nat) (hs:By s) (hl:s.length<4294967281) (hc:s[0]? = some 34) (w:World):Calls Tryz.prog 52 #[.string (mks s)] w (TokR w (⟨2,0,(quotV s).2.1,(quotV s).1⟩,(quotV s).2.2)):=by
 obtain⟨c,hc34⟩:∃c,c=34:=⟨_,rfl⟩
 rw [←hc34] at hc
 have hcb:=hs.get hc
 have hlen:0<s.length:=(List.getElem?_eq_some_iff.1 hc).1
 have h0:((mks s)[0]'(by rw [size_mks];exact hlen)).toNat=c:=get_mks hc hcb _
 have hlen':(0:Int)<s.length:=by omega
 have hlen1:(1:Int)≤s.length:=by omega
 have DI:=ixPunct_h c hcb
 have DQ:=quoted_h s hs hl
 have HX:=Lib.hid (Arr.new w 118 zTok)
 have HBd:Below w.heap.size w (w.alloc (.cells #[.int .i64 0,.int .i64 0,.int .i64 0,.string ⟨#[]⟩] 118)):=(Below.refl _ _).alloc (Nat.le_refl _) _
 change Hid (Arr (w.alloc (.cells #[.int .i64 0,.int .i64 0,.int .i64 0,.string ⟨#[]⟩] 118)) w.heap.size 118 zTok) at HX
 have hi':ixBV c [123,125,91,93,58,44]<0:=by rw [hc34];decide
 have h34:=hc34
 clear hc hc34
 generalize ixBV c [123,125,91,93,58,44]=pi at *
 have h34':((c:Int) == 34)=true:=by simp;omega
 clear h34
 generalize quotV s=q at *
 obtain⟨qt,qn,qe⟩:=q
 go_enter Tryz.func52,Tryz.ntmps52
 go_upto_region 1 with(fail)
 have hlow:w.heap.size<(w.alloc (.cells #[.int .i64 0,.int .i64 0,.int .i64 0,.string ⟨#[]⟩] 118)).heap.size:=HX.out.lt
 generalize (w.alloc (.cells #[.int .i64 0,.int .i64 0,.int .i64 0,.string ⟨#[]⟩] 118))=W at *
 go_wp2_with (first | (go_at_call 50;((with_reducible refine(DI.out _).mono ?_));rintro e wn ⟨rfl,rfl⟩) | (go_at_call 86;((with_reducible refine(DQ.out _).mono ?_));rintro e w8 ⟨rfl,hb8⟩) | ((with_reducible show wpList _ _ _ (Oper.mk none (Op.store 118 (Operand.tmp 2) (Operand.tmp 28)) _ _ _ _ :: _) _ _);go_loud (refine wpList_sr rfl rfl 118 (.tmp 2) (.tmp 28) rfl (w.heap.size) [.int .i64 2,.int .i64 0,.int .i64 (qn:Int),.string (mks qt)] rfl rfl 118 _ (HX.out.keep hb8) _ Tryz.sz118 (by first | rfl | simp) (by first | rfl | simp) (by first | rfl | simp [Value.oneCell']) ?_;intro w9 hr9 hg9 hz9)))
 have r0:=hr9.out.cell' (i:=0) rfl
 have r1:=hr9.out.cell' (i:=1) rfl
 have r2:=hr9.out.cell' (i:=2) rfl
 have r3:=hr9.out.cell' (i:=3) rfl
 refine bodyPost_ret (v:=.tuple #[.agg #[.int .i64 2,.int .i64 0,.int .i64 (qn:Int),.string (mks qt)],.int .i64 (qe:Int)]) (by simp [results,Tryz.results52,go_sem,r0,r1,r2,r3]) rfl ?_
 have hB8:=HBd.trans (hb8.mono HBd.size)
 exact⟨rfl,hB8.grown hg9 hB8.size (fun k e=>by have:=Option.some.inj e;omega)⟩
end Go.Proofs.YtgbkbgiogdhnaaaGreatDoor
namespace Go.Proofs.YtgbkbgiogdhnaaaGreatDoor
open Go.RowKit
set_option maxRecDepth 20000 in
set_option maxHeartbeats 8000000 in
theorem scan_str (s l:List Nat) (hs:By s) (hn1:1≤s.length) (hlen:s.length≤65536) (hc:s[0]? = some 34) (hqv:quotV s=(l,s.length,0)) (hcm:commV s=0) (hck:checkV s=none) (w:World) (hw:LibOK w):Calls Tryz.prog 28 #[.string (mks s)] w (ScanR w ⟨[⟨2,0,s.length,l⟩],[],0,0⟩):=by
 have HW:=Lib.hid hw
 have DC0:=check_h s (by omega)
 rw [hck] at DC0
 have DC:Hid (∀w,LibOK w→Calls Tryz.prog 19 #[.string (mks s)] w fun e w'=>e=.returned (.tuple #[.int .i64 (-1),.int .i64 0])∧Below w.heap.size w w'):=DC0
 clear DC0
 have DT0:Hid (∀w,Calls Tryz.prog 52 #[.string (mks s)] w (TokR w (⟨2,0,s.length,l⟩,0))):=fun w=>by
  have h:=token_str s hs (by omega) hc w
  rw [hqv] at h
  exact h
 have DM0:Hid (∀w,LibOK w→Calls Tryz.prog 51 #[.string (mks s)] w fun e w'=>e=.returned (.int .i64 0)∧w=w'):=fun w hw=>by
  have h:=comment_any s hs (by omega) w hw
  rw [hcm] at h
  exact h
 have HC:=Lib.hid hc
 have hlen':(s.length:Int)≤65536:=by omega
 clear hck hqv hcm hc
 go_enter Tryz.func28,Tryz.ntmps28
 go_upto_region 4 with(go_at_call 19;((with_reducible refine(DC.out _ hw).mono ?_));rintro e w5 ⟨rfl,hb5⟩)
 go_wp2
 go_loopw [8,9,10] (fun vo vn av wr=>∃(k:Nat) (ts:List JTok) (ns:List JNote),k≤s.length∧av=.int .i64 (k:Int)∧wr.ownsRow w.heap.size 118 4 vo ts.length (toksC ts)∧wr.ownsRow w.heap.size 116 3 vn ns.length (notesC ns) ∧
  Below w.heap.size w wr∧Hid (k=0∧ts = []∨k=s.length∧ts = [⟨2,0,s.length,l⟩])∧ns = []∧ts.length≤k∧ns.length≤k) (fun _ _ av _=>s.length - (intOf av).toNat)
 case atStart=>exact⟨0,[],[],by omega,rfl,World.ownsRow_nil _ _ _ _,World.ownsRow_nil _ _ _ _,hb5,.inl ⟨rfl,rfl⟩,rfl,by simp,by simp⟩
 case round=>
  clear hb5
  obtain⟨k,ts,ns,hk,rfl,hto,hno,hbw,hq,hns,htl,hnl⟩:=hrel
  have hok:=HW.out.keep hbw
  by_cases hlt:k<s.length
  ·have hk0:k=0:=by rcases hq.out with h | h <;> omega
   have hts:ts = []:=by rcases hq.out with h | h;exact h.2;omega
   obtain⟨c,hc⟩:∃c,s[k]? = some c:=⟨_,List.getElem?_eq_getElem hlt⟩
   have hcb:=hs.get hc
   have hg:((mks s)[k]'(by rw [size_mks];exact hlt)).toNat=c:=get_mks hc hcb _
   have hc34:c=34:=by
    have h:=HC.out
    rw [hk0] at hc
    rw [hc] at h
    exact Option.some.inj h
   have hd:s.drop k=s:=by rw [hk0];rfl
   have DB:=ixBlank_h c hcb
   have DM:Hid (∀w,LibOK w→Calls Tryz.prog 51 #[.string (mks (s.drop k))] w fun e w'=>e=.returned (.int .i64 0)∧w=w'):=by rw [hd];exact DM0
   obtain⟨tk,htk⟩:∃tk:JTok,tk=⟨2,0,s.length,l⟩:=⟨_,rfl⟩
   have DT:Hid (∀w,Calls Tryz.prog 52 #[.string (mks (s.drop k))] w (TokR w (tk,0))):=by rw [hd,htk];exact DT0
   have htb2:1≤tk.to_∧k+tk.to_≤s.length:=by rw [htk,hk0];exact⟨hn1,by simp⟩
   have HTK:=Lib.hid (show tk.kind=2∧tk.to_=s.length∧tk.text=l from by rw [htk];exact⟨rfl,rfl,rfl⟩)
   have hbi':ixBV c [32,9,13,10]<0:=by rw [hc34];decide
   generalize ixBV c [32,9,13,10]=bi at *
   have hkl:(k:Int)<s.length:=by omega
   have hkl2:(k:Int)≤s.length:=by omega
   have HK0:=Lib.hid hk0
   have HTS:=Lib.hid hts
   clear hc htk hc34 hd hts hq DT0 DM0 hk0
   have HNS:=Lib.hid hns
   clear hns
   have hsz:=hbw.size
   obtain⟨kd,fr,tt,tx⟩:=tk
   simp only at htb2 DT HTK
   have hkt:(k:Int)+(tt:Int)≤s.length:=by omega
   go_upto_region 21 with(first | (go_at_call 50;((with_reducible refine(DB.out _).mono ?_));rintro e wn ⟨rfl,rfl⟩) | (go_at_call 51;((with_reducible refine(DM.out _ hok).mono ?_));rintro e wn ⟨rfl,rfl⟩) | (go_at_call 52;((with_reducible refine(DT.out _).mono ?_));rintro e w5 ⟨rfl,hb5⟩;have hz5:=hb5.size;have X0:=Lib.hid (Arr.new w5 118 zTok)) | ((with_reducible show wpList _ _ _ (Oper.mk none (Op.store 118 (Operand.tmp 12) (Operand.tmp 70)) _ _ _ _ :: _) _ _);go_loud (refine wpList_sr rfl rfl 118 (.tmp 12) (.tmp 70) rfl (w5.heap.size) [.int .i64 (kd:Int),.int .i64 (fr:Int),.int .i64 (tt:Int),.string (mks tx)] rfl rfl 118 _ X0.out _ Tryz.sz118 (by first | rfl | simp) (by first | rfl | simp) (by first | rfl | simp [Value.oneCell']) ?_;intro w6 hr6 hg6 hz6)))
   have hX0:Below w5.heap.size w5 (w5.alloc (.cells #[.int .i64 0,.int .i64 0,.int .i64 0,.string ⟨#[]⟩] 118)):=(Below.refl _ _).alloc (Nat.le_refl _) _
   have hb56:Below w5.heap.size w5 w6:=Below.grown hX0 hg6 (by simp) (fun k e=>by have:=Option.some.inj e;omega)
   have hlt6:w5.heap.size<w6.heap.size:=hr6.out.lt
   have c2:=hr6.out.cell' (i:=2) rfl
   have c1:=hr6.out.cell' (i:=1) rfl
   have f1:=hr6.out.frozen 1
   have hr7:=Lib.hid (hr6.out.store 1 (.int .i64 (k:Int)))
   have d2:=hr7.out.cell' (i:=2) rfl
   have e2:=hr7.out.frozen 2
   have hr8:=Lib.hid (hr7.out.store 2 (.int .i64 ((k:Int)+(tt:Int))))
   have hb58:Below w5.heap.size w5 ((w6.setCell ⟨w5.heap.size,1,none⟩ (.int .i64 (k:Int))).setCell ⟨w5.heap.size,2,none⟩ (.int .i64 ((k:Int)+(tt:Int)))):=(hb56.setCell (by simp) _).setCell (by simp) _
   have hlt8:w5.heap.size<((w6.setCell ⟨w5.heap.size,1,none⟩ (.int .i64 (k:Int))).setCell ⟨w5.heap.size,2,none⟩ (.int .i64 ((k:Int)+(tt:Int)))).heap.size:=hr8.out.lt
   have hto5:=own_below (own_below hto hb5) hb58
   have hno5:=own_below (own_below hno hb5) hb58
   have hltb:∀g,u8.ownBlock=some g→g<wr.heap.size:=fun g h=>(hto.lt g h).2
   clear hto hno X0 hX0 hg6 hz6 hb56
   go_upto_region 22 with(fail)
   clear c1 c2 f1 d2 e2 hr7
   have hB8:Below w.heap.size w ((w6.setCell ⟨w5.heap.size,1,none⟩ (.int .i64 (k:Int))).setCell ⟨w5.heap.size,2,none⟩ (.int .i64 ((k:Int)+(tt:Int)))):=(hbw.trans (hb5.mono hsz)).trans (hb58.mono (by omega))
   generalize ((w6.setCell ⟨w5.heap.size,1,none⟩ (.int .i64 (k:Int))).setCell ⟨w5.heap.size,2,none⟩ (.int .i64 ((k:Int)+(tt:Int))))=W8 at *
   go_upto_region 23 with(first | ((with_reducible show wpList _ _ _ (Oper.mk _ (Op.load 118 (Operand.tmp 12)) _ _ _ _ :: _) _ _);go_loud (refine wpList_lr rfl 118 (.tmp 12) rfl (w5.heap.size) [.int .i64 (kd:Int),.int .i64 (k:Int),.int .i64 ((k:Int)+(tt:Int)),.string (mks tx)] rfl 118 hr8.out _ Tryz.underlying118 (by simp) _ Tryz.sz118 (by first | rfl | simp) ?_)) | (at_builtin;go_loud (refine wpList_apS rfl (.tmp 86) (.tmp 88) 74 rfl w.heap.size 118 _ 4 _ Tryz.underlying74 Tryz.infoS118 rfl (by decide) _ (ts.length) (toksC ts) rfl (hto5.alloc _) ⟨W8.heap.size,0,none⟩ _ ([.int .i64 (kd:Int),.int .i64 (k:Int),.int .i64 ((k:Int)+(tt:Int)),.string (mks tx)]) rfl rfl (cells_new _ _ _) rfl (by unfold maxLen;omega) (by omega) (by simp;omega) ?_;intro v' w9 hto9 hgr hat)))
   have hno9:=(hno5.alloc (.cells #[.int .i64 (kd:Int),.int .i64 (k:Int),.int .i64 ((k:Int)+(tt:Int)),.string (mks tx)] 118)).kept hgr (own_ne hno5 hto5 (by decide))
   have hB9:Below w.heap.size w w9:=Below.grown (hB8.alloc (by omega) _) hgr (by simp;omega) (fun k h=>(hto5.lt k h).1)
   have hr9:=(hr8.out.alloc (.cells #[.int .i64 (kd:Int),.int .i64 (k:Int),.int .i64 ((k:Int)+(tt:Int)),.string (mks tx)] 118)).grown hgr (by intro e;have:=hltb _ e.symm;omega)
   have c9:=hr9.cell' (i:=2) rfl
   have htw:toksC ts ++ [.int .i64 (kd:Int),.int .i64 (k:Int),.int .i64 ((k:Int)+(tt:Int)),.string (mks tx)]=toksC (ts ++ [⟨kd,k,k+tt,tx⟩]):=by
    rw [toksC_snoc];simp [tokC]
   have htl2:ts.length+1=(ts ++ [(⟨kd,k,k+tt,tx⟩:JTok)]).length:=by simp
   rw [htw,htl2] at hto9
   clear hto5 hno5 hgr hr9 htw htl2 hB8 hr8 hat hltb
   go_wp2
   go_roundw
   case rel=>exact⟨k+tt,ts ++ [⟨kd,k,k+tt,tx⟩],ns,by omega,by go_num,hto9,hno9,hB9,.inr (by
    obtain⟨h1,h2,h3⟩:=HTK.out
    rw [HK0.out,HTS.out,h1,h2,h3]
    exact⟨by simp,by simp⟩),HNS.out,by simp;omega,by omega⟩
   case measure=>simp [intOf];omega
  ·obtain rfl:k=s.length:=by omega
   have hts:ts = [⟨2,0,s.length,l⟩]:=by rcases hq.out with h | h;omega;exact h.2
   subst hts
   subst hns
   clear hq
   go_wp2
   refine bodyPost_ret (results_tmp4 rfl _ _ _) rfl ?_
   exact⟨_,_,rfl,hto,hno,hbw⟩
end Go.Proofs.YtgbkbgiogdhnaaaGreatDoor
namespace Go.Proofs.YtgbkbgiogdhnaaaGreatDoor
open Go.RowKit
set_option maxRecDepth 100000 in
set_option maxHeartbeats 16000000 in
theorem value_str {w:World} {B pb:Nat} {F:Nat→Prop} {k:PK} {A:Option Addr} {n c:Nat} {vn vs:Value} {ncs:List Value} {st:PSt} (h:PMx w B pb F k A n c vn vs ncs st) (hok:∀t∈st.left,TokOK t) (hL:LibAt B w) (s:JSpan) (d:Nat) (hd:d≤1000) {t:JTok} {r:List JTok} (hl:st.left=t :: r)
  (hk2:t.kind=2) (hr:roomV st d=0) (hinv:PInv st):Calls Tryz.prog 30 #[.pointer (some ⟨pb,0,none⟩),.agg (spanC s).toArray,.int .i64 (d:Int)] w (ValR w B pb F k (.ok ((st.nodes.length:Int),⟨r,st.nodes ++ [⟨5,t.text,false,[],[]⟩],st.spans ++ [{ s with node:=st.nodes.length,from_:=t.from_,to_:=t.to_,whole:=true }]⟩))):=by
 have hB:=hL.size
 have hk:¬t.kind=1:=by omega
 have HX:=Lib.hid (Arr.new w 87 (spanC s))
 have HBd:Below w.heap.size w (w.alloc (.cells (spanC s).toArray 87)):=(Below.refl _ _).alloc (Nat.le_refl _) _
 have hW:=h.below HBd
 go_enter Tryz.func30,Tryz.ntmps30
 go_upto_region 1 with(fail)
 have hlow:w.heap.size<(w.alloc (.cells (spanC s).toArray 87)).heap.size:=HX.out.lt
 generalize (w.alloc (.cells (spanC s).toArray 87))=W at *
 have DA:=fun m=>is_lit (hW.drewN m) hok 91 false (by rw [hl];simp [isV,hk])
 have DB:=fun m=>is_lit (hW.drewN m) hok 123 false (by rw [hl];simp [isV,hk])
 go_quiet ((go_at_call 53;first | (with_reducible exact quiet_left (DA _).out) | (with_reducible exact quiet_left (DB _).out)))
 rename_i nq
 have hWq:=hW.drewN nq
 have hHX:Hid (Arr (W.drewN nq) w.heap.size 87 (spanC s)):=HX.out
 have HBq:Below w.heap.size w (W.drewN nq):=Below.drewN' HBd nq
 have hlowq:w.heap.size<(W.drewN nq).heap.size:=hlow
 generalize W.drewN nq=Wq at *
 clear hW HX HBd hlow DA DB
 have hn:=hWq.len
 obtain⟨g,o,hA,q0,q1,q2,q3⟩:=hWq.head hl
 subst hA
 have c0:=hWq.par.cell' (i:=0) rfl
 rw [hl] at hn
 have hn0:0<n:=by rw [hn];simp
 have hn0':(0:Int)<n:=by omega
 have hn1:((n:Int) == 0)=false:=by simp;omega
 have hk':((t.kind:Int) == 1)=false:=by simp;omega
 have hokt:=hok t (by rw [hl];simp)
 have DR:=room_h0 hWq d hd hr
 have hnl:st.nodes.length<4096:=by unfold roomV at hr;split at hr;cases hr;split at hr;cases hr;omega
 have DO0:=offset_h hWq
 rw [hl] at DO0
 have DO:Hid (Calls Tryz.prog 55 #[.pointer (some ⟨pb,0,none⟩)] Wq fun e w'=>e=.returned (.int .i64 (t.from_:Int))∧Wq=w'):=DO0
 clear DO0
 clear hn q1 q2
 have x3:=hHX.out.cell' (i:=3) rfl
 have f3:=hHX.out.frozen 3
 have HX3:=Lib.hid (hHX.out.store 3 (.int .i64 (t.from_:Int)))
 have x8:=HX3.out.cell' (i:=8) rfl
 have f8:=HX3.out.frozen 8
 have f8q:=hHX.out.frozen 8
 have HX8:=Lib.hid (HX3.out.store 8 (.bool true))
 have hsF:¬F w.heap.size:=fun hf=>by have:=h.hi _ hf;omega
 have hsA:∀ad,(some (⟨g,o,none⟩:Addr))=some ad→ad.block≠w.heap.size:=fun ad e=>by have:=h.tokLt ad e;omega
 have hP2:=(hWq.far (p:=⟨w.heap.size,3,none⟩) hsF hsA (.int .i64 (t.from_:Int))).far (p:=⟨w.heap.size,8,none⟩) hsF hsA (.bool true)
 have hB2:Below w.heap.size w ((Wq.setCell ⟨w.heap.size,3,none⟩ (.int .i64 (t.from_:Int))).setCell ⟨w.heap.size,8,none⟩ (.bool true)):=(HBq.setCell (by simp) _).setCell (by simp) _
 go_upto_region 6 with(first | (go_at_call 54;((with_reducible refine DR.out.mono ?_));rintro e wn ⟨rfl,rfl⟩) | (go_at_call 55;((with_reducible refine DO.out.mono ?_));rintro e wn ⟨rfl,rfl⟩))
 clear x3 f3 x8 f8 f8q HX3 c0 q0 q3
 have hlow2:w.heap.size<((Wq.setCell ⟨w.heap.size,3,none⟩ (.int .i64 (t.from_:Int))).setCell ⟨w.heap.size,8,none⟩ (.bool true)).heap.size:=HX8.out.lt
 generalize ((Wq.setCell ⟨w.heap.size,3,none⟩ (.int .i64 (t.from_:Int))).setCell ⟨w.heap.size,8,none⟩ (.bool true))=W2 at *
 clear hWq hHX DR DO
 obtain⟨As,cs,hvs,hsc,hsm⟩:=own_slice hP2.spn
 have c6:=hP2.par.cell' (i:=6) rfl
 rw [hvs] at c6
 clear hvs
 have c0:=hP2.par.cell' (i:=0) rfl
 obtain⟨g',o',hA',hR⟩:=hP2.headR hl
 obtain⟨rfl,rfl⟩:g=g'∧o=o':=by injection hA' with e;injection e with e1 e2;exact⟨e1,e2⟩
 have hRH:=Lib.hid hR
 clear hA' hR
 have DS:Hid (∀w,Calls Tryz.prog 57 #[.pointer (some ⟨pb,0,none⟩),.agg (tokC t).toArray] w fun e w'=>Below w.heap.size w w'∧e=.returned (.agg #[.int .i64 5,.string (mks t.text),.bool false,.slice none 0 0,.slice none 0 0])):=fun w=>scalar_str t hk2 w
 have hLw2:LibOK W2:=(hL.step (hB2.mono hB)).ok
 clear hk2
 go_upto_region 9 with(first | ((with_reducible show wpList _ _ _ (Oper.mk _ (Op.load 118 (Operand.tmp 80)) _ _ _ _ :: _) _ _);go_loud (refine wpList_load_mid rfl 118 (.tmp 80) rfl (g) (o) rfl (tokC t) _ (hRH.out) Tryz.underlying118 rfl Tryz.sz118 ?_)) | (go_at_call 57;((with_reducible refine(DS.out _).mono ?_));rintro e w3 ⟨hb3,rfl⟩;have hP3:=hP2.below hb3;have DAdd:=Lib.hid (add_any hP3 (by omega) (Nat.le_trans hB (Nat.le_trans hB2.size hb3.size)) 5 t.text)) | (go_at_call 56;(refine DAdd.out.mono ?_);rintro e w4 ⟨F',vn',ncs',rfl,hP4,hS4,hF4⟩;have HX4:=hS4.arr (HX8.out.keep hb3) hsF;have z0:=HX4.cell' (i:=0) rfl;have y0:=HX4.frozen 0))
 have hsF4:¬F' w.heap.size:=hS4.out (Nat.lt_of_lt_of_le hlow2 hb3.size) hsF
 have HX5:=Lib.hid (HX4.store 0 (.int .i64 (st.nodes.length:Int)))
 have hP5:=hP4.far (p:=⟨w.heap.size,0,none⟩) hsF4 hsA (.int .i64 (st.nodes.length:Int))
 have hS23:PStep w w3 F F:=PStep.of_below (hB2.trans (hb3.mono hB2.size))
 have hS5:PStep w (w4.setCell ⟨w.heap.size,0,none⟩ (.int .i64 (st.nodes.length:Int))) F F':=(hS23.trans hS4).far (.inl (Nat.le_refl _)) _
 have hlow5:w.heap.size<(w4.setCell ⟨w.heap.size,0,none⟩ (.int .i64 (st.nodes.length:Int))).heap.size:=HX5.out.lt
 clear z0 y0 HX4 c0 c6 DS DAdd hS4 hS23 hP3 hP4
 generalize (w4.setCell ⟨w.heap.size,0,none⟩ (.int .i64 (st.nodes.length:Int)))=W5 at *
 have DT:=Lib.hid (take_any hP5 (t:=t) (r:=r) hl)
 have hfld:=tok_to t
 go_upto_region 10 with(go_at_call 58;(refine DT.out.mono ?_);rintro e w6 ⟨A6,n6,c6,rfl,hP6,hS6⟩;have HX6:=hS6.arr HX5.out hsF4;have z4:=HX6.cell' (i:=4) rfl;have y4:=HX6.frozen 4;have hlow6:w.heap.size<w6.heap.size:=HX6.lt)
 have HX7:=Lib.hid (HX6.store 4 (.int .i64 (t.to_:Int)))
 have hsA6:∀ad,A6=some ad→ad.block≠w.heap.size:=fun ad e=>by
  obtain⟨_,_,C,fz,hb⟩:=hP6.tokA ad e
  intro e2
  rw [e2] at hb
  exact absurd (cells_kind hb HX6) (by decide)
 have hP7:=hP6.far (p:=⟨w.heap.size,4,none⟩) hsF4 hsA6 (.int .i64 (t.to_:Int))
 have hS7:PStep w (w6.setCell ⟨w.heap.size,4,none⟩ (.int .i64 (t.to_:Int))) F F':=(hS5.trans hS6).far (.inl (Nat.le_refl _)) _
 have hlow7:w.heap.size<(w6.setCell ⟨w.heap.size,4,none⟩ (.int .i64 (t.to_:Int))).heap.size:=HX7.out.lt
 clear z4 y4 HX6 DT HX5 hP5 hP6 hS5 hS6
 generalize (w6.setCell ⟨w.heap.size,4,none⟩ (.int .i64 (t.to_:Int)))=W7 at *
 obtain⟨spn,hspn⟩:∃x,spanC { s with node:=st.nodes.length,from_:=t.from_,to_:=t.to_,whole:=true } = x:=⟨_,rfl⟩
 have HX7':Hid (Arr W7 w.heap.size 87 [.int .i64 (st.nodes.length:Int),.int .i64 s.parent,.int .i64 s.entry,.int .i64 (t.from_:Int),.int .i64 (t.to_:Int),.int .i64 s.kf,.int .i64 s.kt,.bool s.alias_,.bool true]):=HX7.out
 clear hfld HX7 hspn
 have e0:=HX7'.out.cell' (i:=0) rfl
 have e1:=HX7'.out.cell' (i:=1) rfl
 have e2:=HX7'.out.cell' (i:=2) rfl
 have e3:=HX7'.out.cell' (i:=3) rfl
 have e4:=HX7'.out.cell' (i:=4) rfl
 have e5:=HX7'.out.cell' (i:=5) rfl
 have e6:=HX7'.out.cell' (i:=6) rfl
 have e7:=HX7'.out.cell' (i:=7) rfl
 have e8:=HX7'.out.cell' (i:=8) rfl
 have cc6:=hP7.par.cell' (i:=6) rfl
 have hpne:w.heap.size≠pb:=fun e=>hsF4 (by rw [e];exact hP7.pF)
 have d6:=(hP7.par.alloc (.cells #[.int .i64 (st.nodes.length:Int),.int .i64 s.parent,.int .i64 s.entry,.int .i64 (t.from_:Int),.int .i64 (t.to_:Int),.int .i64 s.kf,.int .i64 s.kt,.bool s.alias_,.bool true] 87)).cell' (i:=6) rfl
 have hPd:Arr W7.drew pb 84 [.slice A6 n6 c6,.int .i64 (k.en:Int),k.f,k.s,vn',k.r,vs,k.n]:=hP7.par
 have hHd:Arr W7.drew w.heap.size 87 [.int .i64 (st.nodes.length:Int),.int .i64 s.parent,.int .i64 s.entry,.int .i64 (t.from_:Int),.int .i64 (t.to_:Int),.int .i64 s.kf,.int .i64 s.kt,.bool s.alias_,.bool true]:=HX7'.out
 have hnpb:=own_arr hP7.spn hP7.par (by decide)
 have hspl:st.spans.length≤4096:=by have:=hinv.1;have:=hinv.2;omega
 have hnsb:vs.ownBlock≠some w.heap.size:=fun e=>hsF4 (hP7.spnF _ e)
 have hBw7:B≤W7.heap.size:=by omega
 have hownd:W7.drew.ownsRow B 87 9 vs st.spans.length (spansC st.spans):=hP7.spn
 go_region_law (refine step_apS rfl (.tmp 96) (.tmp 98) 35 rfl B 87 _ 9 _ Tryz.underlying35 Tryz.infoS87 rfl (by decide) _ st.spans.length (spansC st.spans) rfl (hownd.alloc _) ⟨W7.heap.size,0,none⟩ _ [.int .i64 (st.nodes.length:Int),.int .i64 s.parent,.int .i64 s.entry,.int .i64 (t.from_:Int),.int .i64 (t.to_:Int),.int .i64 s.kf,.int .i64 s.kt,.bool s.alias_,.bool true] rfl rfl (cells_new _ _ _) rfl (by unfold maxLen;omega) (by omega) (by simp;omega) ?_;intro v' w8 hown8 hgr8 hat8;obtain⟨A8,c8,rfl,hc8,hm8⟩:=own_slice hown8;have P8:=(hPd.alloc (.cells #[.int .i64 (st.nodes.length:Int),.int .i64 s.parent,.int .i64 s.entry,.int .i64 (t.from_:Int),.int .i64 (t.to_:Int),.int .i64 s.kf,.int .i64 s.kt,.bool s.alias_,.bool true] 87)).grown hgr8 (fun e=>hnpb e.symm);have p6:=P8.cell' (i:=6) rfl;have q6:=P8.frozen 6;have H8:=(hHd.alloc (.cells #[.int .i64 (st.nodes.length:Int),.int .i64 s.parent,.int .i64 s.entry,.int .i64 (t.from_:Int),.int .i64 (t.to_:Int),.int .i64 s.kf,.int .i64 s.kt,.bool s.alias_,.bool true] 87)).grown hgr8 (fun e=>hnsb e.symm);have hgr8':(W7.alloc (.cells #[.int .i64 (st.nodes.length:Int),.int .i64 s.parent,.int .i64 s.entry,.int .i64 (t.from_:Int),.int .i64 (t.to_:Int),.int .i64 s.kf,.int .i64 s.kt,.bool s.alias_,.bool true] 87)).drew.grownBy w8 vs.ownBlock:=hgr8;have hat8':(Value.slice A8 (st.spans.length+1) c8).ownBlock=vs.ownBlock∨(Value.slice A8 (st.spans.length+1) c8).ownBlock=some (W7.alloc (.cells #[.int .i64 (st.nodes.length:Int),.int .i64 s.parent,.int .i64 s.entry,.int .i64 (t.from_:Int),.int .i64 (t.to_:Int),.int .i64 s.kf,.int .i64 s.kt,.bool s.alias_,.bool true] 87)).drew.heap.size:=hat8;clear hgr8 hat8)
 all_goals
  have hbw1:Below W7.heap.size W7 (W7.alloc (.cells #[.int .i64 (st.nodes.length:Int),.int .i64 s.parent,.int .i64 s.entry,.int .i64 (t.from_:Int),.int .i64 (t.to_:Int),.int .i64 s.kf,.int .i64 s.kt,.bool s.alias_,.bool true] 87)).drew:=((Below.refl _ _).alloc (Nat.le_refl _) _).drew
  obtain⟨F9,hP9,hS9,hF9⟩:=hP7.appendSpan hbw1 hgr8' hown8 hat8' (sp:={ s with node:=st.nodes.length,from_:=t.from_,to_:=t.to_,whole:=true }) rfl
  have H9:=H8.far (p:=⟨pb,6,none⟩) hpne (.slice A8 (st.spans.length+1) c8)
  have z9:=H9.cell' (i:=0) rfl
  have hS:PStep w (w8.setCell ⟨pb,6,none⟩ (.slice A8 (st.spans.length+1) c8)) F F9:=hS7.trans hS9
  clear P8 p6 q6 H8 H9 hgr8' hat8' hown8 hbw1 e0 e1 e2 e3 e4 e5 e6 e7 e8 cc6 d6 hPd hHd hownd hS9 HX7'
  generalize (w8.setCell ⟨pb,6,none⟩ (.slice A8 (st.spans.length+1) c8))=W9 at *
  go_wp2
  go_ret
  exact⟨F9,rfl,⟨_,_,_,_,_,_,hP9⟩,hS⟩
end Go.Proofs.YtgbkbgiogdhnaaaGreatDoor
namespace Go.Proofs.YtgbkbgiogdhnaaaGreatDoor
open Go.RowKit
theorem catch_idleQ (p q r:Addr) (w:World) :
  CallsD Tryz.prog 29 #[.pointer (some p),.pointer (some q),.pointer (some r)] .returning w fun e u' w'=>e=.returned (.tuple #[])∧u'=.returning∧w'=w:=by
 refine callsD_of_wpS Tryz.func29 rfl fun c₀ cs hu=>?_
 apply wpS_seq
 apply wpS_region
 simp [wpOpsS,go_sem,recoverD,hu,Tryz.ntmps29,Exit.thenS]
 apply wpS_seq
 apply wpS_seq
 apply wpS_region
 simp [wpOpsS,go_sem,Exit.thenS]
 refine wpS_cond (t:=true) (by simp [Act.eval,Array.replicate]) ?_
 simp only [if_true]
 refine wpS_of_wp (wp_ret ?_)
 cases c₀
 simp_all [bodyPostS,results,Tryz.results29,Exit.thenS]
abbrev zDocQ:List Value:=[.int .i64 0,.string ⟨#[]⟩,.slice none 0 0,.int .i64 0,.slice none 0 0,.slice none 0 0]
def spanQ:JSpan:=⟨0,-1,0,0,0,0,0,false,false⟩
theorem own_keptQ {w w':World} {F F':Nat→Prop} {b:Nat} {e:TypeId} {k:Nat} {v:Value} {n:Nat} {xs:List Value} (h:w.ownsRow b e k v n xs) (hs:PStep w w' F F') (hF:∀g,v.ownBlock=some g→¬F g):w'.ownsRow b e k v n xs:=
 own_same h (fun g hg=>hs.keep g (h.lt g hg).2 (hF g hg))
theorem own_lowQ {w:World} {b b':Nat} {e:TypeId} {k:Nat} {v:Value} {n:Nat} {xs:List Value} (h:w.ownsRow b e k v n xs) (hb:b'≤b):w.ownsRow b' e k v n xs:=by
 refine⟨h.1,?_⟩
 rcases h.2 with h1 | ⟨g,cap,cur,h1,h2,h3⟩
 ·exact .inl h1
 ·exact .inr ⟨g,cap,cur,h1,Nat.le_trans hb h2,h3⟩
theorem boxesQ (w:World):Hid (Arr (((w.alloc (.cells zDocQ.toArray 38)).alloc (.cells #[.int .i64 0] 3)).alloc (.cells #[.int .i64 0] 23)) w.heap.size 38 zDocQ) ∧
  Hid (Arr (((w.alloc (.cells zDocQ.toArray 38)).alloc (.cells #[.int .i64 0] 3)).alloc (.cells #[.int .i64 0] 23)) (w.heap.size+1) 3 [.int .i64 0]) ∧
  Hid (Arr (((w.alloc (.cells zDocQ.toArray 38)).alloc (.cells #[.int .i64 0] 3)).alloc (.cells #[.int .i64 0] 23)) (w.heap.size+1+1) 23 [.int .i64 0]) ∧
  Below w.heap.size w (((w.alloc (.cells zDocQ.toArray 38)).alloc (.cells #[.int .i64 0] 3)).alloc (.cells #[.int .i64 0] 23)):=by
 obtain⟨h1,h2,h3,h4⟩:=two_box w 38 3 zDocQ [.int .i64 0]
 refine⟨Arr.alloc h1 _,Arr.alloc h2 _,?_,h3.alloc (by have:=h4.out;omega) _⟩
 have h:=Arr.new ((w.alloc (.cells zDocQ.toArray 38)).alloc (.cells #[.int .i64 0] 3)) 23 [.int .i64 0]
 rw [h4.out] at h
 exact h
def ParseQ (w:World) (s l:List Nat) (e:Ending) (w':World):Prop:=
 Below w.heap.size w w'∧∃vn vs vo ncs sp,e=.returned (.tuple #[.agg #[.int .i64 0,.string (mks s),vn,.int .i64 0,vs,vo],.int .i64 0,.int .i64 0]) ∧
  w'.ownsRow w.heap.size 43 5 vn 1 ncs∧NodesRd w' (fun _=>True) ncs [⟨5,l,false,[],[]⟩]∧w'.ownsRow w.heap.size 87 9 vs 1 (spansC [sp])∧w'.ownsRow w.heap.size 116 3 vo 0 (notesC [])
set_option maxRecDepth 100000 in
set_option maxHeartbeats 4000000 in
theorem jparse_str (s l:List Nat) (hs:By s) (hby:By l) (hll:l.length≤4294967200) (hn1:1≤s.length) (hlen:s.length≤65536) (hc:s[0]? = some 34) (hqv:quotV s=(l,s.length,0)) (hcm:commV s=0) (hck:checkV s=none) (w:World) (hw:LibOK w):Calls Tryz.prog 12 #[.string (mks s)] w (ParseQ w s l):=by
 obtain⟨HP,HQ,HR,HB⟩:=boxesQ w
 have hmf:∀(fn:Fn) (first cap:Array Value) (w:World),(Instr.makeFunc fn first cap).run Tryz.prog w=.ok (.func fn first cap) w:=fun _ _ _ _=>rfl
 have hw3:=hw.keep HB
 go_enter_defers Tryz.func12,Tryz.ntmps12
 go_upto_region 1 with(fail)
 generalize (((w.alloc (.cells zDocQ.toArray 38)).alloc (.cells #[.int .i64 0] 3)).alloc (.cells #[.int .i64 0] 23))=W3 at *
 obtain⟨sc,hsc⟩:∃sc:Scanned,sc=⟨[⟨2,0,s.length,l⟩],[],0,0⟩:=⟨_,rfl⟩
 have DS:=Lib.hid (scan_str s l hs hn1 hlen hc hqv hcm hck W3 hw3)
 rw [←hsc] at DS
 have HSC:=Lib.hid hsc
 clear hsc
 go_upto_region 2 with(go_at_call 28;go_loud (refine DS.out.mono ?_;rintro e w4 ⟨vo,vn,rfl,ho,hn,hb4⟩;have HP4:=Arr.keep HP hb4;have HQ4:=Arr.keep HQ hb4;have HR4:=Arr.keep HR hb4;have q0:=HQ4.cell' (i:=0) rfl;have qz:=HQ4.frozen 0;have r0:=HR4.cell' (i:=0) rfl;have rz:=HR4.frozen 0))
 obtain⟨b2,hb2⟩:∃b,w.heap.size+1+1=b:=⟨_,rfl⟩
 obtain⟨b1,hb1⟩:∃b,w.heap.size+1=b:=⟨_,rfl⟩
 have l1:w.heap.size<b1:=by omega
 have l2:b1<b2:=by omega
 have l3:b2<W3.heap.size:=by have:=Arr.lt HR;omega
 have n10:w.heap.size≠b1:=by omega
 have n20:w.heap.size≠b2:=by omega
 have n21:b1≠b2:=by omega
 rw [hb2] at HR HR4 r0 rz ⊢
 rw [hb1] at HQ HQ4 q0 qz ⊢
 clear hb1 hb2
 have HP5:=(HP4.far (p:=⟨b1,0,none⟩) n10 (.int .i64 (sc.at_:Int))).far (p:=⟨b2,0,none⟩) n20 (.int .i64 (sc.err:Int))
 have HQ5:Arr ((w4.setCell ⟨b1,0,none⟩ (.int .i64 (sc.at_:Int))).setCell ⟨b2,0,none⟩ (.int .i64 (sc.err:Int))) b1 3 [.int .i64 (sc.at_:Int)]:=(HQ4.store 0 (.int .i64 (sc.at_:Int))).far (p:=⟨b2,0,none⟩) n21 (.int .i64 (sc.err:Int))
 have HR5:Arr ((w4.setCell ⟨b1,0,none⟩ (.int .i64 (sc.at_:Int))).setCell ⟨b2,0,none⟩ (.int .i64 (sc.err:Int))) b2 23 [.int .i64 (sc.err:Int)]:=(HR4.far (p:=⟨b1,0,none⟩) (Ne.symm n21) (.int .i64 (sc.at_:Int))).store 0 (.int .i64 (sc.err:Int))
 have hB5:Below w.heap.size w ((w4.setCell ⟨b1,0,none⟩ (.int .i64 (sc.at_:Int))).setCell ⟨b2,0,none⟩ (.int .i64 (sc.err:Int))):=((HB.trans (hb4.mono HB.size)).setCell (by simp;omega) _).setCell (by simp;omega) _
 have hw5:Below W3.heap.size W3 w4:=hb4
 have hLib:LibOK w:=hw
 have hoT:=own_far (own_far ho (own_arr ho HQ4 (by decide)) (p:=⟨b1,0,none⟩) (.int .i64 (sc.at_:Int))) (own_arr (own_far ho (own_arr ho HQ4 (by decide)) (p:=⟨b1,0,none⟩) (.int .i64 (sc.at_:Int))) (HR4.far (p:=⟨b1,0,none⟩) (Ne.symm n21) (.int .i64 (sc.at_:Int))) (by decide)) (p:=⟨b2,0,none⟩) (.int .i64 (sc.err:Int))
 have hnT:=own_far (own_far hn (own_arr hn HQ4 (by decide)) (p:=⟨b1,0,none⟩) (.int .i64 (sc.at_:Int))) (own_arr (own_far hn (own_arr hn HQ4 (by decide)) (p:=⟨b1,0,none⟩) (.int .i64 (sc.at_:Int))) (HR4.far (p:=⟨b1,0,none⟩) (Ne.symm n21) (.int .i64 (sc.at_:Int))) (by decide)) (p:=⟨b2,0,none⟩) (.int .i64 (sc.err:Int))
 clear HP4 HQ4 HR4 q0 qz r0 rz ho hn DS HP HQ HR
 have hs4:=hb4.size
 have l4:=Arr.lt HR5
 generalize ((w4.setCell ⟨b1,0,none⟩ (.int .i64 (sc.at_:Int))).setCell ⟨b2,0,none⟩ (.int .i64 (sc.err:Int)))=w5 at *
 clear hb4 hw5 HB hw3 hs4
 have q0:=HQ5.cell' (i:=0) rfl
 have qz:=HQ5.frozen 0
 have r0:=HR5.cell' (i:=0) rfl
 have rz:=HR5.frozen 0
 have p0:=HP5.cell' (i:=0) rfl
 have pz0:=HP5.frozen 0
 have p1:=HP5.cell' (i:=1) rfl
 have pz1:=HP5.frozen 1
 have p2:=HP5.cell' (i:=2) rfl
 have pz2:=HP5.frozen 2
 have p3:=HP5.cell' (i:=3) rfl
 have pz3:=HP5.frozen 3
 have p4:=HP5.cell' (i:=4) rfl
 have pz4:=HP5.frozen 4
 have p5:=HP5.cell' (i:=5) rfl
 have pz5:=HP5.frozen 5
 have hse:sc.err=0:=by rw [HSC.out]
 ·have hse':((sc.err:Int) != 0)=false:=by simp [hse]
  clear hse
  obtain⟨A,cT,hvo,hcA,hcM⟩:=own_slice hoT
  subst hvo
  obtain⟨An,cn,hvn,hcn,hcN⟩:=own_slice hnT
  subst hvn
  have HX:=Lib.hid (Arr.new w5 84 [.slice A sc.toks.length cT,.int .i64 (s.length:Int),.int .i64 0,.string ⟨#[]⟩,.slice none 0 0,.int .i64 0,.slice none 0 0,.slice none 0 0])
  change Hid (Arr (w5.alloc (.cells #[.slice A sc.toks.length cT,.int .i64 (s.length:Int),.int .i64 0,.string ⟨#[]⟩,.slice none 0 0,.int .i64 0,.slice none 0 0,.slice none 0 0] 84)) w5.heap.size 84 [.slice A sc.toks.length cT,.int .i64 (s.length:Int),.int .i64 0,.string ⟨#[]⟩,.slice none 0 0,.int .i64 0,.slice none 0 0,.slice none 0 0]) at HX
  go_upto_region 6 with(fail)
  have hb6:Below w5.heap.size w5 (w5.alloc (.cells #[.slice A sc.toks.length cT,.int .i64 (s.length:Int),.int .i64 0,.string ⟨#[]⟩,.slice none 0 0,.int .i64 0,.slice none 0 0,.slice none 0 0] 84)):=(Below.refl _ _).alloc (Nat.le_refl _) _
  generalize (w5.alloc (.cells #[.slice A sc.toks.length cT,.int .i64 (s.length:Int),.int .i64 0,.string ⟨#[]⟩,.slice none 0 0,.int .i64 0,.slice none 0 0,.slice none 0 0] 84))=w6 at *
  have x2:=HX.out.cell' (i:=2) rfl
  have xz2:=HX.out.frozen 2
  have x3:=HX.out.cell' (i:=3) rfl
  have xz3:=HX.out.frozen 3
  have x4:=HX.out.cell' (i:=4) rfl
  have xz4:=HX.out.frozen 4
  have x5:=HX.out.cell' (i:=5) rfl
  have xz5:=HX.out.frozen 5
  have x6:=HX.out.cell' (i:=6) rfl
  have xz6:=HX.out.frozen 6
  have x7:=HX.out.cell' (i:=7) rfl
  have xz7:=HX.out.frozen 7
  go_upto_region 7 with(fail)
  have HX7:Arr ((((((w6.setCell ⟨w5.heap.size,2,none⟩ (.int .i64 0)).setCell ⟨w5.heap.size,3,none⟩ (.string (mks s))).setCell ⟨w5.heap.size,4,none⟩ (.slice none 0 0)).setCell ⟨w5.heap.size,5,none⟩ (.int .i64 0)).setCell ⟨w5.heap.size,6,none⟩ (.slice none 0 0)).setCell ⟨w5.heap.size,7,none⟩ (.slice An sc.notes.length cn)) w5.heap.size 84 [.slice A sc.toks.length cT,.int .i64 (s.length:Int),.int .i64 0,.string (mks s),.slice none 0 0,.int .i64 0,.slice none 0 0,.slice An sc.notes.length cn]:=(((((HX.out.store 2 (.int .i64 0)).store 3 (.string (mks s))).store 4 (.slice none 0 0)).store 5 (.int .i64 0)).store 6 (.slice none 0 0)).store 7 (.slice An sc.notes.length cn)
  have hb7:Below w5.heap.size w5 ((((((w6.setCell ⟨w5.heap.size,2,none⟩ (.int .i64 0)).setCell ⟨w5.heap.size,3,none⟩ (.string (mks s))).setCell ⟨w5.heap.size,4,none⟩ (.slice none 0 0)).setCell ⟨w5.heap.size,5,none⟩ (.int .i64 0)).setCell ⟨w5.heap.size,6,none⟩ (.slice none 0 0)).setCell ⟨w5.heap.size,7,none⟩ (.slice An sc.notes.length cn)):=(((((hb6.setCell (Nat.le_refl _) _).setCell (Nat.le_refl _) _).setCell (Nat.le_refl _) _).setCell (Nat.le_refl _) _).setCell (Nat.le_refl _) _).setCell (Nat.le_refl _) _
  clear x2 x3 x4 x5 x6 x7 xz2 xz3 xz4 xz5 xz6 xz7 HX hb6 p0 p1 p2 p3 p4 p5 q0 r0 qz rz pz0 pz1 pz2 pz3 pz4 pz5
  generalize ((((((w6.setCell ⟨w5.heap.size,2,none⟩ (.int .i64 0)).setCell ⟨w5.heap.size,3,none⟩ (.string (mks s))).setCell ⟨w5.heap.size,4,none⟩ (.slice none 0 0)).setCell ⟨w5.heap.size,5,none⟩ (.int .i64 0)).setCell ⟨w5.heap.size,6,none⟩ (.slice none 0 0)).setCell ⟨w5.heap.size,7,none⟩ (.slice An sc.notes.length cn))=w7 at *
  have hLA:LibAt w5.heap.size w7:=⟨w5,hLib.keep hB5,rfl,hb7⟩
  have hoT7:w7.ownsRow W3.heap.size 118 4 (.slice A sc.toks.length cT) sc.toks.length (toksC sc.toks):=own_same hoT (fun g hg=>hb7.block g (hoT.lt g hg).2)
  have hnT7:w7.ownsRow W3.heap.size 116 3 (.slice An sc.notes.length cn) sc.notes.length (notesC sc.notes):=own_same hnT (fun g hg=>hb7.block g (hnT.lt g hg).2)
  have hPM:PMx w7 w5.heap.size w5.heap.size (fun g=>g=w5.heap.size) ⟨s.length,.int .i64 0,.string (mks s),.int .i64 0,.slice An sc.notes.length cn⟩ A sc.toks.length cT (.slice none 0 0) (.slice none 0 0) [] ⟨sc.toks,[],[]⟩:={
   par:=HX7
   pF:=rfl
   lo:=fun g e=>by rw [e];exact Nat.le_refl _
   hi:=fun g e=>by rw [e];exact HX7.lt
   len:=rfl
   nc:=hcA
   cm:=hcM
   tok:=fun j u hj=>by
    rcases hoT7.2 with⟨_,h0⟩ | ⟨g,cap,cur,hv,_⟩
    ·rw [List.eq_nil_of_length_eq_zero h0] at hj;simp [toksC] at hj
    ·injection hv with hv1 _ _
     subst hv1
     exact⟨_,rfl,hoT7.cells (g:=g) rfl j u hj⟩
   tokA:=fun ad e=>by
    subst e
    obtain⟨C,fz,hb⟩:=own_kind hoT7 (g:=ad.block) rfl
    refine⟨?_,fun e=>?_,C,fz,hb⟩
    ·rcases hoT7.2 with⟨hv,_⟩ | ⟨g,cap,cur,hv,_⟩
     ·cases hv
     ·injection hv with hv1 _ _
      exact⟨g,0,Option.some.inj hv1⟩
    ·rw [e] at hb
     exact absurd (cells_kind HX7 hb) (by decide)
   nod:=World.ownsRow_nil _ _ _ _
   nodF:=fun g e=>by simp [Value.ownBlock] at e
   nrd:=⟨rfl,fun i nd e=>by simp at e⟩
   spn:=World.ownsRow_nil _ _ _ _
   spnF:=fun g e=>by simp [Value.ownBlock] at e }
  have hl0:(⟨sc.toks,[],[]⟩:PSt).left=⟨2,0,s.length,l⟩ :: []:=by rw [HSC.out]
  have hok:∀t∈(⟨sc.toks,[],[]⟩:PSt).left,TokOK t:=by
   intro t ht
   rw [hl0] at ht
   obtain rfl:=List.mem_singleton.1 ht
   exact⟨hby,hll,fun _ h=>absurd rfl h,by show 0≤_;omega,by show s.length≤_;omega⟩
  have DV0:=value_str hPM hok hLA spanQ 0 (by omega) hl0 rfl (by rfl) ⟨by simp,by simp⟩
  obtain⟨v,st,hst,DV⟩:∃v st,st=(⟨[],[⟨5,l,false,[],[]⟩],[{ spanQ with node:=0,from_:=0,to_:=s.length,whole:=true }]⟩:PSt)∧Hid (Calls Tryz.prog 30 #[.pointer (some ⟨w5.heap.size,0,none⟩),.agg #[.int .i64 0,.int .i64 (-1),.int .i64 0,.int .i64 0,.int .i64 0,.int .i64 0,.int .i64 0,.bool false,.bool false],.int .i64 0] w7 (ValR w7 w5.heap.size w5.heap.size (fun g=>g=w5.heap.size) ⟨s.length,.int .i64 0,.string (mks s),.int .i64 0,.slice An sc.notes.length cn⟩ (.ok (v,st)))):=⟨_,_,rfl,DV0⟩
  clear DV0 hl0 hok
  have hl:st.left = []:=by rw [hst]
  have hst:=Lib.hid hst
  have HP7:=HP5.keep hb7
  have HQ7:=HQ5.keep hb7
  have HR7:=HR5.keep hb7
  have hB7:Below w.heap.size w w7:=hB5.trans (hb7.mono hB5.size)
  have hs57:w5.heap.size≤w7.heap.size:=hb7.size
  have hnpb:(Value.slice An sc.notes.length cn).ownBlock≠some w5.heap.size:=own_arr hnT7 HX7 (by decide)
  clear HP5 HQ5 HR5 hb7 hPM hLA HX7 hoT hnT hoT7
  go_upto_region 8 with(go_at_call 30;go_loud (refine DV.out.mono ?_;rintro e w8 ⟨F8,rfl,⟨A8,n8,c8,vn8,vs8,nc8,hP8⟩,hS8⟩))
  have hb8:Below w5.heap.size w7 w8:=hS8.below (fun g e=>by rw [e];exact Nat.le_refl _) hs57
  have hB8:Below w.heap.size w w8:=hB7.trans (hb8.mono (by omega))
  have hn8:=hP8.len
  rw [hl] at hn8
  replace hn8:n8=0:=hn8
  subst hn8
  obtain⟨AN,cN,hvN,_,_⟩:=own_slice hP8.nod
  obtain⟨AS,cS,hvS,_,_⟩:=own_slice hP8.spn
  obtain⟨nN,hnN⟩:∃n,st.nodes.length=n:=⟨_,rfl⟩
  obtain⟨nS,hnS⟩:∃n,st.spans.length=n:=⟨_,rfl⟩
  subst hvN
  subst hvS
  rw [hnN] at hP8
  rw [hnS] at hP8
  have HP8:=HP7.below hb8 (by omega)
  have HQ8:=HQ7.below hb8 (by omega)
  have HR8:=HR7.below hb8 (by omega)
  have q0:=HQ8.cell' (i:=0) rfl
  have qz:=HQ8.frozen 0
  have r0:=HR8.cell' (i:=0) rfl
  have rz:=HR8.frozen 0
  have p0:=HP8.cell' (i:=0) rfl
  have pz0:=HP8.frozen 0
  have p1:=HP8.cell' (i:=1) rfl
  have pz1:=HP8.frozen 1
  have p2:=HP8.cell' (i:=2) rfl
  have pz2:=HP8.frozen 2
  have p3:=HP8.cell' (i:=3) rfl
  have pz3:=HP8.frozen 3
  have p4:=HP8.cell' (i:=4) rfl
  have pz4:=HP8.frozen 4
  have p5:=HP8.cell' (i:=5) rfl
  have pz5:=HP8.frozen 5
  have c0:=hP8.par.cell' (i:=0) rfl
  have c2:=hP8.par.cell' (i:=2) rfl
  have c3:=hP8.par.cell' (i:=3) rfl
  have c4:=hP8.par.cell' (i:=4) rfl
  have c5:=hP8.par.cell' (i:=5) rfl
  have c6:=hP8.par.cell' (i:=6) rfl
  have c7:=hP8.par.cell' (i:=7) rfl
  go_wp2_with (fail)
  have HP9:Arr ((((((((w8.setCell ⟨w.heap.size,0,none⟩ (.int .i64 0)).setCell ⟨w.heap.size,1,none⟩ (.string (mks s))).setCell ⟨w.heap.size,2,none⟩ (.slice AN nN cN)).setCell ⟨w.heap.size,3,none⟩ (.int .i64 0)).setCell ⟨w.heap.size,4,none⟩ (.slice AS nS cS)).setCell ⟨w.heap.size,5,none⟩ (.slice An sc.notes.length cn)).setCell ⟨b1,0,none⟩ (.int .i64 0)).setCell ⟨b2,0,none⟩ (.int .i64 0)) w.heap.size 38 [.int .i64 0,.string (mks s),.slice AN nN cN,.int .i64 0,.slice AS nS cS,.slice An sc.notes.length cn]:=(((((((HP8.store 0 (.int .i64 0)).store 1 (.string (mks s))).store 2 (.slice AN nN cN)).store 3 (.int .i64 0)).store 4 (.slice AS nS cS)).store 5 (.slice An sc.notes.length cn)).far (p:=⟨b1,0,none⟩) n10 (.int .i64 0)).far (p:=⟨b2,0,none⟩) n20 (.int .i64 0)
  have HQ9:Arr ((((((((w8.setCell ⟨w.heap.size,0,none⟩ (.int .i64 0)).setCell ⟨w.heap.size,1,none⟩ (.string (mks s))).setCell ⟨w.heap.size,2,none⟩ (.slice AN nN cN)).setCell ⟨w.heap.size,3,none⟩ (.int .i64 0)).setCell ⟨w.heap.size,4,none⟩ (.slice AS nS cS)).setCell ⟨w.heap.size,5,none⟩ (.slice An sc.notes.length cn)).setCell ⟨b1,0,none⟩ (.int .i64 0)).setCell ⟨b2,0,none⟩ (.int .i64 0)) b1 3 [.int .i64 0]:=(((((((HQ8.far (p:=⟨w.heap.size,0,none⟩) (Ne.symm n10) _).far (p:=⟨w.heap.size,1,none⟩) (Ne.symm n10) _).far (p:=⟨w.heap.size,2,none⟩) (Ne.symm n10) _).far (p:=⟨w.heap.size,3,none⟩) (Ne.symm n10) _).far (p:=⟨w.heap.size,4,none⟩) (Ne.symm n10) _).far (p:=⟨w.heap.size,5,none⟩) (Ne.symm n10) _).store 0 (.int .i64 0)).far (p:=⟨b2,0,none⟩) n21 (.int .i64 0)
  have HR9:Arr ((((((((w8.setCell ⟨w.heap.size,0,none⟩ (.int .i64 0)).setCell ⟨w.heap.size,1,none⟩ (.string (mks s))).setCell ⟨w.heap.size,2,none⟩ (.slice AN nN cN)).setCell ⟨w.heap.size,3,none⟩ (.int .i64 0)).setCell ⟨w.heap.size,4,none⟩ (.slice AS nS cS)).setCell ⟨w.heap.size,5,none⟩ (.slice An sc.notes.length cn)).setCell ⟨b1,0,none⟩ (.int .i64 0)).setCell ⟨b2,0,none⟩ (.int .i64 0)) b2 23 [.int .i64 0]:=(((((((HR8.far (p:=⟨w.heap.size,0,none⟩) (Ne.symm n20) _).far (p:=⟨w.heap.size,1,none⟩) (Ne.symm n20) _).far (p:=⟨w.heap.size,2,none⟩) (Ne.symm n20) _).far (p:=⟨w.heap.size,3,none⟩) (Ne.symm n20) _).far (p:=⟨w.heap.size,4,none⟩) (Ne.symm n20) _).far (p:=⟨w.heap.size,5,none⟩) (Ne.symm n20) _).far (p:=⟨b1,0,none⟩) (Ne.symm n21) (.int .i64 0)).store 0 (.int .i64 0)
  have hK:∀g,b2<g→(((((((((w8.setCell ⟨w.heap.size,0,none⟩ (.int .i64 0)).setCell ⟨w.heap.size,1,none⟩ (.string (mks s))).setCell ⟨w.heap.size,2,none⟩ (.slice AN nN cN)).setCell ⟨w.heap.size,3,none⟩ (.int .i64 0)).setCell ⟨w.heap.size,4,none⟩ (.slice AS nS cS)).setCell ⟨w.heap.size,5,none⟩ (.slice An sc.notes.length cn)).setCell ⟨b1,0,none⟩ (.int .i64 0)).setCell ⟨b2,0,none⟩ (.int .i64 0))).heap[g]? = w8.heap[g]?:=fun g hg=>(setCell_heap_ne _ _ _ (by simp only;omega)).trans ((setCell_heap_ne _ _ _ (by simp only;omega)).trans ((setCell_heap_ne _ _ _ (by simp only;omega)).trans ((setCell_heap_ne _ _ _ (by simp only;omega)).trans ((setCell_heap_ne _ _ _ (by simp only;omega)).trans ((setCell_heap_ne _ _ _ (by simp only;omega)).trans ((setCell_heap_ne _ _ _ (by simp only;omega)).trans (setCell_heap_ne _ _ _ (by simp only;omega))))))))
  have hB9:Below w.heap.size w ((((((((w8.setCell ⟨w.heap.size,0,none⟩ (.int .i64 0)).setCell ⟨w.heap.size,1,none⟩ (.string (mks s))).setCell ⟨w.heap.size,2,none⟩ (.slice AN nN cN)).setCell ⟨w.heap.size,3,none⟩ (.int .i64 0)).setCell ⟨w.heap.size,4,none⟩ (.slice AS nS cS)).setCell ⟨w.heap.size,5,none⟩ (.slice An sc.notes.length cn)).setCell ⟨b1,0,none⟩ (.int .i64 0)).setCell ⟨b2,0,none⟩ (.int .i64 0)):=(((((((hB8.setCell (Nat.le_refl _) _).setCell (Nat.le_refl _) _).setCell (Nat.le_refl _) _).setCell (Nat.le_refl _) _).setCell (Nat.le_refl _) _).setCell (Nat.le_refl _) _).setCell (Nat.le_of_lt l1) _).setCell (by simp only;omega) _
  clear p0 p1 p2 p3 p4 p5 q0 r0 qz rz pz0 pz1 pz2 pz3 pz4 pz5 c0 c2 c3 c4 c5 c6 c7
  generalize ((((((((w8.setCell ⟨w.heap.size,0,none⟩ (.int .i64 0)).setCell ⟨w.heap.size,1,none⟩ (.string (mks s))).setCell ⟨w.heap.size,2,none⟩ (.slice AN nN cN)).setCell ⟨w.heap.size,3,none⟩ (.int .i64 0)).setCell ⟨w.heap.size,4,none⟩ (.slice AS nS cS)).setCell ⟨w.heap.size,5,none⟩ (.slice An sc.notes.length cn)).setCell ⟨b1,0,none⟩ (.int .i64 0)).setCell ⟨b2,0,none⟩ (.int .i64 0))=w9 at *
  have hN9:=own_lowQ (own_same hP8.nod (fun g hg=>hK g (by have:=(hP8.nod.lt g hg).1;omega))) (show w.heap.size≤w5.heap.size by omega)
  have hS9:=own_lowQ (own_same hP8.spn (fun g hg=>hK g (by have:=(hP8.spn.lt g hg).1;omega))) (show w.heap.size≤w5.heap.size by omega)
  have hT8:=own_keptQ hnT7 hS8 (fun g hg e=>hnpb (by rw [hg];exact congrArg some e))
  have hT9:=own_lowQ (own_same hT8 (fun g hg=>hK g (by have:=(hT8.lt g hg).1;omega))) (show w.heap.size≤W3.heap.size by omega)
  have hR9:NodesRd w9 (fun _=>True) nc8 st.nodes:=hP8.nrd.keep (fun g C fz hf hg=>by rw [hK g (by have:=hP8.lo g hf;omega)];exact hg) (fun _ _=>trivial)
  have q0:=HQ9.cell' (i:=0) rfl
  have r0:=HR9.cell' (i:=0) rfl
  have p0:=HP9.cell' (i:=0) rfl
  have p1:=HP9.cell' (i:=1) rfl
  have p2:=HP9.cell' (i:=2) rfl
  have p3:=HP9.cell' (i:=3) rfl
  have p4:=HP9.cell' (i:=4) rfl
  have p5:=HP9.cell' (i:=5) rfl
  have hPR:ParseQ w s l (.returned (.tuple #[.agg #[.int .i64 0,.string (mks s),.slice AN nN cN,.int .i64 0,.slice AS nS cS,.slice An sc.notes.length cn],.int .i64 0,.int .i64 0])) w9:=⟨hB9,_,_,_,nc8,{ spanQ with node:=0,from_:=0,to_:=s.length,whole:=true },rfl,(by have h:=hN9;rw [hst.out] at h;exact h),(by have h:=hR9;rw [hst.out] at h;exact h),(by have h:=hS9;rw [hst.out] at h;exact h),(by have h:=hT9;rw [HSC.out] at h;rw [HSC.out];exact h)⟩
  refine leaves_cons (f:=29) (args:=#[.pointer (some ⟨w.heap.size,0,none⟩),.pointer (some ⟨b1,0,none⟩),.pointer (some ⟨b2,0,none⟩)]) (by simp) (by simp [go_sem]) ?_
  refine(catch_idleQ ⟨w.heap.size,0,none⟩ ⟨b1,0,none⟩ ⟨b2,0,none⟩ _).mono ?_
  rintro e u' w'' ⟨rfl,rfl,rfl⟩
  simp [Leaves,settle,results,Tryz.results12,go_sem,p0,p1,p2,p3,p4,p5,q0,r0]
  exact hPR
end Go.Proofs.YtgbkbgiogdhnaaaGreatDoor
