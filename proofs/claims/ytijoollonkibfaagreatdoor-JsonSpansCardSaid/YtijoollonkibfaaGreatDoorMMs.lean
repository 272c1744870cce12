/- The shell of value's walk at a list or map: all but the cases of the loop's round. -/
import Derived.Test.YtijoollonkibfaaGreatDoorMK
import Derived.Deep.CutRange
set_option linter.unusedVariables false
set_option linter.unusedSimpArgs false
set_option linter.defProp false
set_option linter.constructorNameAsVariable false
namespace Go.Proofs.YtijoollonkibfaaGreatDoor
open Go.RowKit
set_option maxRecDepth 100000 in
set_option maxHeartbeats 16000000 in
def shell_m (w:World) (B pb:Nat) (F:Nat→Prop) (k:PK) (st:PSt) (s:JSpan) (d:Nat) (t:JTok) (r:List JTok) (L f0:Nat) (oc:Except PErr PLoop) (res:Except PErr (Int×PSt)):=
 fun(H1:Box _) (H2:Box _) (H3:Box _) {A:Option Addr} {n c:Nat} {vn vs:Value} {ncs:List Value} (h:PMx w B pb F k A n c vn vs ncs st) (hok:∀t∈st.left,TokOK t) (hL:LibAt B w) (hd:d≤1000) (hl:st.left=t :: r)
  (hk:t.kind=1) (hx:t.text = [123]) (hr:roomV st d=0) (hinv:PInv st) (hll:st.left.length≤L) (hLb:L≤65536) (hfu:2*st.left.length<f0+1) (ih:∀f',f'≤f0→ValOK B pb k L f')
  (HO:Hid (itemsV k.en f0 true st.spans.length d ⟨⟨r,st.nodes ++ [⟨10,[],false,[],[]⟩],st.spans ++ [{ s with node:=st.nodes.length,from_:=t.from_,whole:=true }]⟩,[],[],[]⟩=oc))
  (HR:Hid (contRes st.nodes.length 10 st.spans.length oc=res))=>(show Calls Tryz.prog 10 #[.pointer (some ⟨pb,0,none⟩),.agg (spanC s).toArray,.int .i64 (d:Int)] w (ValR w B pb F k res) from by
  have hB:=hL.size
  have HX:=Lib.hid (Arr.new w 34 (spanC s))
  have HBd:Below w.heap.size w (w.alloc (.cells (spanC s).toArray 34)):=(Below.refl _ _).alloc (Nat.le_refl _) _
  have hW:=h.below HBd
  go_enter Tryz.func10,Tryz.ntmps10
  go_upto_region 1 with(fail)
  have hlow:w.heap.size<(w.alloc (.cells (spanC s).toArray 34)).heap.size:=HX.out.lt
  generalize (w.alloc (.cells (spanC s).toArray 34))=W at *
  have DA:=fun m=>is_lit (hW.drewN m) hok 91 false (by rw [hl];simp [isV,hk,hx])
  have DB:=fun m=>is_lit (hW.drewN m) hok 123 true (by rw [hl];simp [isV,hk,hx])
  go_quiet ((go_at_call 26;first | (with_reducible exact quiet_left (DA _).out) | (with_reducible exact quiet_left (DB _).out)))
  rename_i nq
  have hWq:=hW.drewN nq
  have hHX:Hid (Arr (W.drewN nq) w.heap.size 34 (spanC s)):=HX.out
  have HBq:Below w.heap.size w (W.drewN nq):=Below.drewN' HBd nq
  have hlowq:w.heap.size<(W.drewN nq).heap.size:=hlow
  generalize W.drewN nq=Wq at *
  clear hW HX HBd hlow DA DB
  have hn:=hWq.len
  obtain⟨g,o,hA,q0,q1,q2,q3⟩:=hWq.head hl
  subst hA
  have c0:=hWq.par.cell' (i:=0) rfl
  rw [hl] at hn
  have hn0:0<n:=by rw [hn];simp
  have hn0':(0:Int)<n:=by omega
  have hn1:((n:Int) == 0)=false:=by simp;omega
  have hk':((t.kind:Int) == 1)=true:=by simp;omega
  have DR:=room_h0 hWq d hd hr
  have hnl:st.nodes.length<4096:=by unfold roomV at hr;split at hr;cases hr;split at hr;cases hr;omega
  have hd32:d≤32:=by unfold roomV at hr;split at hr;cases hr;omega
  have DO0:=offset_h hWq
  rw [hl] at DO0
  have DO:Hid (Calls Tryz.prog 28 #[.pointer (some ⟨pb,0,none⟩)] Wq fun e w'=>e=.returned (.int .i64 (t.from_:Int))∧Wq=w'):=DO0
  clear DO0 hn q1 q2
  have x3:=hHX.out.cell' (i:=3) rfl
  have f3:=hHX.out.frozen 3
  have HX3:=Lib.hid (hHX.out.store 3 (.int .i64 (t.from_:Int)))
  have x8:=HX3.out.cell' (i:=8) rfl
  have f8:=HX3.out.frozen 8
  have f8q:=hHX.out.frozen 8
  have HX8:=Lib.hid (HX3.out.store 8 (.bool true))
  have hsF:¬F w.heap.size:=fun hf=>by have:=h.hi _ hf;omega
  have hsA:∀ad,(some (⟨g,o,none⟩:Addr))=some ad→ad.block≠w.heap.size:=fun ad e=>by have:=h.tokLt ad e;omega
  have hP2:=(hWq.far (p:=⟨w.heap.size,3,none⟩) hsF hsA (.int .i64 (t.from_:Int))).far (p:=⟨w.heap.size,8,none⟩) hsF hsA (.bool true)
  have hB2:Below w.heap.size w ((Wq.setCell ⟨w.heap.size,3,none⟩ (.int .i64 (t.from_:Int))).setCell ⟨w.heap.size,8,none⟩ (.bool true)):=(HBq.setCell (by simp) _).setCell (by simp) _
  have hlk:¬t.kind=2:=by omega
  clear hlk
  go_upto_region 6 with(first | (go_at_call 27;((with_reducible refine DR.out.mono ?_));rintro e wn ⟨rfl,rfl⟩) | (go_at_call 28;((with_reducible refine DO.out.mono ?_));rintro e wn ⟨rfl,rfl⟩))
  clear x3 f3 x8 f8 f8q HX3 c0 q0 q3
  have hlow2:w.heap.size<((Wq.setCell ⟨w.heap.size,3,none⟩ (.int .i64 (t.from_:Int))).setCell ⟨w.heap.size,8,none⟩ (.bool true)).heap.size:=HX8.out.lt
  generalize ((Wq.setCell ⟨w.heap.size,3,none⟩ (.int .i64 (t.from_:Int))).setCell ⟨w.heap.size,8,none⟩ (.bool true))=W2 at *
  clear hWq hHX DR DO
  obtain⟨As,cs,hvs,hsc,hsm⟩:=own_slice hP2.spn
  have c6:=hP2.par.cell' (i:=6) rfl
  rw [hvs] at c6
  clear hvs
  have DAdd:Hid (Calls Tryz.prog 29 #[.pointer (some ⟨pb,0,none⟩),.agg #[.int .i64 10,.string ⟨#[]⟩,.bool false,.slice none 0 0,.slice none 0 0]] W2 (AddR W2 B pb F k (some ⟨g,o,none⟩) n c vs st ⟨10,[],false,[],[]⟩)):=add_any hP2 (by omega) (Nat.le_trans hB hB2.size) 10 []
  go_upto_region 16 with((go_at_call 29;(with_reducible refine DAdd.out.mono ?_);rintro e w4 ⟨F',vn',ncs',rfl,hP4,hS4,hF4⟩;have HX4:=hS4.arr HX8.out hsF;have z0:=HX4.cell' (i:=0) rfl;have y0:=HX4.frozen 0))
  have hsF4:¬F' w.heap.size:=hS4.out hlow2 hsF
  have hP7:=hP4.far (p:=⟨w.heap.size,0,none⟩) hsF4 hsA (.int .i64 (st.nodes.length:Int))
  have hS23:PStep w W2 F F:=PStep.of_below hB2
  have hS7:PStep w (w4.setCell ⟨w.heap.size,0,none⟩ (.int .i64 (st.nodes.length:Int))) F F':=(hS23.trans hS4).far (.inl (Nat.le_refl _)) _
  have HX7':Hid (Arr (w4.setCell ⟨w.heap.size,0,none⟩ (.int .i64 (st.nodes.length:Int))) w.heap.size 34 [.int .i64 (st.nodes.length:Int),.int .i64 s.parent,.int .i64 s.entry,.int .i64 (t.from_:Int),.int .i64 s.to_,.int .i64 s.kf,.int .i64 s.kt,.bool s.alias_,.bool true]):=HX4.store 0 (.int .i64 (st.nodes.length:Int))
  have hlow7:w.heap.size<(w4.setCell ⟨w.heap.size,0,none⟩ (.int .i64 (st.nodes.length:Int))).heap.size:=HX7'.out.lt
  clear z0 y0 HX4 c6 DAdd hS4 hS23 hP4 HX8 hP2
  generalize (w4.setCell ⟨w.heap.size,0,none⟩ (.int .i64 (st.nodes.length:Int)))=W7 at *
  have e0:=HX7'.out.cell' (i:=0) rfl
  have e1:=HX7'.out.cell' (i:=1) rfl
  have e2:=HX7'.out.cell' (i:=2) rfl
  have e3:=HX7'.out.cell' (i:=3) rfl
  have e4:=HX7'.out.cell' (i:=4) rfl
  have e5:=HX7'.out.cell' (i:=5) rfl
  have e6:=HX7'.out.cell' (i:=6) rfl
  have e7:=HX7'.out.cell' (i:=7) rfl
  have e8:=HX7'.out.cell' (i:=8) rfl
  have cc6:=hP7.par.cell' (i:=6) rfl
  have hpne:w.heap.size≠pb:=fun e=>hsF4 (by rw [e];exact hP7.pF)
  have d6:=(hP7.par.alloc (.cells #[.int .i64 (st.nodes.length:Int),.int .i64 s.parent,.int .i64 s.entry,.int .i64 (t.from_:Int),.int .i64 s.to_,.int .i64 s.kf,.int .i64 s.kt,.bool s.alias_,.bool true] 34)).cell' (i:=6) rfl
  have hPd:Arr W7.drew pb 51 [.slice (some ⟨g,o,none⟩) n c,.int .i64 (k.en:Int),k.f,k.s,vn',k.r,vs,k.n]:=hP7.par
  have hHd:Arr W7.drew w.heap.size 34 [.int .i64 (st.nodes.length:Int),.int .i64 s.parent,.int .i64 s.entry,.int .i64 (t.from_:Int),.int .i64 s.to_,.int .i64 s.kf,.int .i64 s.kt,.bool s.alias_,.bool true]:=HX7'.out
  have hnpb:=own_arr hP7.spn hP7.par (by decide)
  have hspl:st.spans.length≤4096:=by have:=hinv.1;have:=hinv.2;omega
  have hnsb:vs.ownBlock≠some w.heap.size:=fun e=>hsF4 (hP7.spnF _ e)
  have hBw7:B≤W7.heap.size:=by omega
  have hownd:W7.drew.ownsRow B 34 9 vs st.spans.length (spansC st.spans):=hP7.spn
  go_cut [] (fun wx=>∃F9 v9,PMx wx B pb F9 k (some ⟨g,o,none⟩) n c vn' v9 ncs' ⟨st.left,st.nodes ++ [⟨10,[],false,[],[]⟩],st.spans ++ [{ s with node:=st.nodes.length,from_:=t.from_,whole:=true }]⟩∧Hid (Arr wx w.heap.size 34 [.int .i64 (st.nodes.length:Int),.int .i64 s.parent,.int .i64 s.entry,.int .i64 (t.from_:Int),.int .i64 s.to_,.int .i64 s.kf,.int .i64 s.kt,.bool s.alias_,.bool true])∧PStep w wx F F9∧¬F9 w.heap.size)
  case first=>
   go_region_law (refine step_apS rfl (.tmp 116) (.tmp 118) 26 rfl B 34 _ 9 _ Tryz.underlying26 Tryz.infoS34 rfl (by decide) _ st.spans.length (spansC st.spans) rfl (hownd.alloc _) ⟨W7.heap.size,0,none⟩ _ [.int .i64 (st.nodes.length:Int),.int .i64 s.parent,.int .i64 s.entry,.int .i64 (t.from_:Int),.int .i64 s.to_,.int .i64 s.kf,.int .i64 s.kt,.bool s.alias_,.bool true] rfl rfl (cells_new _ _ _) rfl (by unfold maxLen;omega) (by omega) (by simp;omega) ?_;intro v' w8 hown8 hgr8 hat8;obtain⟨A8,c8,rfl,hc8,hm8⟩:=own_slice hown8;have P8:=(hPd.alloc (.cells #[.int .i64 (st.nodes.length:Int),.int .i64 s.parent,.int .i64 s.entry,.int .i64 (t.from_:Int),.int .i64 s.to_,.int .i64 s.kf,.int .i64 s.kt,.bool s.alias_,.bool true] 34)).grown hgr8 (fun e=>hnpb e.symm);have p6:=P8.cell' (i:=6) rfl;have q6:=P8.frozen 6;have H8:=(hHd.alloc (.cells #[.int .i64 (st.nodes.length:Int),.int .i64 s.parent,.int .i64 s.entry,.int .i64 (t.from_:Int),.int .i64 s.to_,.int .i64 s.kf,.int .i64 s.kt,.bool s.alias_,.bool true] 34)).grown hgr8 (fun e=>hnsb e.symm);have hgr8':(W7.alloc (.cells #[.int .i64 (st.nodes.length:Int),.int .i64 s.parent,.int .i64 s.entry,.int .i64 (t.from_:Int),.int .i64 s.to_,.int .i64 s.kf,.int .i64 s.kt,.bool s.alias_,.bool true] 34)).drew.grownBy w8 vs.ownBlock:=hgr8;have hat8':(Value.slice A8 (st.spans.length+1) c8).ownBlock=vs.ownBlock∨(Value.slice A8 (st.spans.length+1) c8).ownBlock=some (W7.alloc (.cells #[.int .i64 (st.nodes.length:Int),.int .i64 s.parent,.int .i64 s.entry,.int .i64 (t.from_:Int),.int .i64 s.to_,.int .i64 s.kf,.int .i64 s.kt,.bool s.alias_,.bool true] 34)).drew.heap.size:=hat8;clear hgr8 hat8)
   all_goals
    have hbw1:Below W7.heap.size W7 (W7.alloc (.cells #[.int .i64 (st.nodes.length:Int),.int .i64 s.parent,.int .i64 s.entry,.int .i64 (t.from_:Int),.int .i64 s.to_,.int .i64 s.kf,.int .i64 s.kt,.bool s.alias_,.bool true] 34)).drew:=((Below.refl _ _).alloc (Nat.le_refl _) _).drew
    obtain⟨F9,hP9,hS9,hF9⟩:=hP7.appendSpan hbw1 hgr8' hown8 hat8' (sp:={ s with node:=st.nodes.length,from_:=t.from_,whole:=true }) rfl
    have H9:=Lib.hid (H8.far (p:=⟨pb,6,none⟩) hpne (.slice A8 (st.spans.length+1) c8))
    have hS:PStep w (w8.setCell ⟨pb,6,none⟩ (.slice A8 (st.spans.length+1) c8)) F F9:=hS7.trans hS9
    have hsF9:¬F9 w.heap.size:=hS9.out hlow7 hsF4
    clear P8 p6 q6 H8 hgr8' hat8' hown8 hbw1 e0 e1 e2 e3 e4 e5 e6 e7 e8 cc6 d6 hPd hHd hownd hS9 HX7' hS7 hF9 hP7 hnpb hnsb hsF4 hF4
    generalize (w8.setCell ⟨pb,6,none⟩ (.slice A8 (st.spans.length+1) c8))=W9 at *
    go_wp2_with fail
    go_meet
    exact⟨F9,_,hP9,H9,hS,hsF9⟩
  case rest=>
   obtain⟨F9,v9,hP9,H9,hS,hsF9⟩:=hcut
   clear e0 e1 e2 e3 e4 e5 e6 e7 e8 cc6 d6 hPd hHd hownd HX7' hS7 hP7 hnpb hnsb hsF4 hF4
   have hmm:=@run_makeMap Tryz.prog
   have DT:=Lib.hid (take_any hP9 (t:=t) (r:=r) hl)
   go_upto_region 18 with(go_at_call 31;(refine DT.out.mono ?_);rintro e w10 ⟨A10,n10,c10,rfl,hP10,hS10⟩)
   have hX10:=Lib.hid (hS10.arr H9.out hsF9)
   have hS100:=hS.trans hS10
   clear DT H9 hP9 hS hS10
   have hM:=KeyMap.made w10
   have hb11:Below w10.heap.size w10 (w10.alloc (.map #[] 0)):=(Below.refl _ _).alloc (Nat.le_refl _) _
   have hs11:(w10.alloc (.map #[] 0)).heap.size=w10.heap.size+1:=by simp
   have hN0:=Lib.hid (Arr.new (w10.alloc (.map #[] 0)) 40 zNode)
   rw [hs11] at hN0
   have hb12:Below w10.heap.size w10 ((w10.alloc (.map #[] 0)).alloc (.cells #[.int .i64 0,.string ⟨#[]⟩,.bool false,.slice none 0 0,.slice none 0 0] 40)):=hb11.alloc (by simp) _
   change Hid (Arr ((w10.alloc (.map #[] 0)).alloc (.cells #[.int .i64 0,.string ⟨#[]⟩,.bool false,.slice none 0 0,.slice none 0 0] 40)) (w10.heap.size+1) 40 zNode) at hN0
   have hM2:KeyMap ((w10.alloc (.map #[] 0)).alloc (.cells #[.int .i64 0,.string ⟨#[]⟩,.bool false,.slice none 0 0,.slice none 0 0] 40)) w10.heap.size 0 []:=hM.same (((Below.refl _ (w10.alloc (.map #[] 0))).alloc (Nat.le_refl _) _).block _ (by simp))
   clear hs11 hM
   go_wp2_with (first | ((with_reducible show wpList _ _ _ (Oper.mk none (Op.store 40 (Operand.tmp 13) (Operand.tmp 129)) _ _ _ _ :: _) _ _);go_loud (refine wpList_sr rfl rfl 40 (.tmp 13) (.tmp 129) rfl (w10.heap.size+1) [.int .i64 10,.string ⟨#[]⟩,.bool false,.slice none 0 0,.slice none 0 0] rfl rfl 40 _ hN0.out _ Tryz.sz40 (by first | rfl | simp) (by first | rfl | simp) (by first | rfl | simp [Value.oneCell']) ?_;intro w13 hr13 hg13 hz13)))
   clear hN0
   have hb13:Below w10.heap.size w10 w13:=hb12.grown hg13 (by simp;omega) (fun k e=>by have:=Option.some.inj e;omega)
   have hM3:KeyMap w13 w10.heap.size 0 []:=hM2.same (hg13.block _ hM2.lt (by intro e;have:=Option.some.inj e;omega))
   have hi10:∀g,F9 g→g<w10.heap.size:=hP10.hi
   have hw10:w.heap.size≤w10.heap.size:=hS100.size
   have hBw:Below B w w13:=(hS100.below h.lo hB).trans (hb13.mono (Nat.le_trans hB hw10))
   have hI0:LoopS w B pb w.heap.size (w10.heap.size+1) w10.heap.size F k 10 [.int .i64 (st.nodes.length:Int),.int .i64 s.parent,.int .i64 s.entry,.int .i64 (t.from_:Int),.int .i64 s.to_,.int .i64 s.kf,.int .i64 s.kt,.bool s.alias_,.bool true] L ⟨⟨r,st.nodes ++ [⟨10,[],false,[],[]⟩],st.spans ++ [{ s with node:=st.nodes.length,from_:=t.from_,whole:=true }]⟩,[],[],[]⟩ F9 A10 n10 c10 vn' v9 ncs' (.slice none 0 0) (.slice none 0 0) w13:={
    pm:=hP10.below hb13
    step:=hS100.below' hb13
    sp:=hX10.out.keep hb13
    spF:=hsF9
    nd:=hr13.out
    ndF:=fun hf=>by have:=hi10 _ hf;omega
    mp:=hM3
    mpF:=fun hf=>by have:=hi10 _ hf;omega
    ok:=World.ownsRow_nil _ _ _ _
    oi:=World.ownsRow_nil _ _ _ _
    kF:=fun g e=>by simp [Value.ownBlock] at e
    iF:=fun g e=>by simp [Value.ownBlock] at e
    ki:=fun g e=>by simp [Value.ownBlock] at e
    tk:=fun t' ht'=>hok t' (by rw [hl];exact List.mem_cons_of_mem _ ht')
    iv:=⟨by simp;omega,by have:=hinv.2;simp;omega⟩
    li:=hL.step hBw
    l1:=by have:=hll;rw [hl] at this;simp at this ⊢;omega
    l2:=by have:=hll;rw [hl] at this;simp at this ⊢;omega
    l3:=by have:=hll;rw [hl] at this;simp at this ⊢;omega
    bx:=⟨Nat.le_refl _,by omega,hw10⟩
    lob:=hB }
   have hfu0:2*r.length+1<f0:=by have:=hfu;rw [hl] at this;simp at this;omega
   have HI0:=Lib.hid hI0
   have hne1:w10.heap.size+1≠w.heap.size:=by omega
   clear hI0 hr13 hg13 hz13 hb13 hM3 hM2 hb12 hb11 hX10 hS100 hP10 hBw hi10
   generalize hnb:w10.heap.size+1=nb at *
   generalize w10.heap.size=mb at *
   clear hnb
   obtain⟨cs9,hcs9⟩:∃x,Hid (([.int .i64 (st.nodes.length:Int),.int .i64 s.parent,.int .i64 s.entry,.int .i64 (t.from_:Int),.int .i64 s.to_,.int .i64 s.kf,.int .i64 s.kt,.bool s.alias_,.bool true]:List Value)=x):=⟨_,rfl⟩
   rw [hcs9.out] at HI0
   go_loopw [] (fun wr=>∃f x,LoopX w B pb w.heap.size nb mb F k 10 cs9 L x wr∧Hid (itemsV k.en f true st.spans.length d x=oc)∧2*x.st.left.length+1<f∧f≤f0∧st.nodes.length<x.st.nodes.length∧st.spans.length<x.st.spans.length) (fun wr=>leftN pb wr)
   case atStart=>exact⟨f0,_,⟨_,_,_,_,_,_,_,_,_,HI0.out⟩,HO,hfu0,Nat.le_refl _,by simp,by simp⟩
   case round=>
    clear HI0 hfu0 HO
    obtain⟨f1,x,⟨FX,AX,nX,cX,vnX,vsX,ncX,vk,vi,hI⟩,hpu,hfx,hff,hnx,hsx⟩:=hrel
    obtain⟨f,rfl⟩:∃f,f1=f+1:=⟨f1 - 1,by omega⟩
    have hm0:=leftN_of hI.pm
    rcases items_map2 hpu.out with⟨hc,ho⟩ | ⟨hc,h0,h1,ho⟩ | ⟨hc,y,hy,hev,hov⟩
    ·revert u14 u15 u130 u131 u132 u133 u134 u135 u136 u137 u138 u139 u140 u141 u142 u143 u144 u145 u146 u147 u148 u149 u150 u151 u152 u153 u154 u155 u156 u157 u158 u159 u160 u161 u162 u163 u164 u165 u166 u167 u168 u169 u170 u171 u172 u173 u174 u175 u176 u177 u178 u179 u180 u181 u182 u183 u184 u185 u186 u187 u188 u189 u190 u191 u192 u193 u194 u195 u196 u197 u198 u199 u200 u201 u202 u203 u204 u205 u206 u207 u208 u209 u210 u211 u212 u213 u214 u215 u216 u217 u218 u219 u220 u221 u222 u223 u224 u225 u226 u227 u228 u229 u230 u231 u232 u233 u234 u235 u236 u16 u17 u18 u19 u20 u21 u22 u23 u24 u25 u26 u27 u28 u29 u30 u31 u32 u33 u34 u35 u36 u37 u38 u39 u40 u41 u42 u43 u44 u45 u46 u47 u48 u49 u50 u51 u52 u53 u54 u55 u56 u57 u58 u59 u60 u61 u62 u63 u64 u65 u66 u67 u68 u69 u70 u71 u72 u73 u74 u75 u76 u77 u78 u79 u80 u81 u82 u83 u84 u85 u86 u87 u88 u89 u90 u91 u92 u93 u94 u95 u96 u97 u98 u99 u100 u101 u102 u103 u104 u105 u106 u107 u108 u109 u110 u111 u112 u113 u114 u115 u116 u117 u118 u119 u120 u121 u122 u123 u124 u125 u126 u127 u128 u129 u237 u238 u239 u240 u241 u242 u243 u244 u245 u246 u247 u248 u249 u250 u251 u252 u253 u254 u255 u256 u257 u258 u259 u260 u261
     rename_i K hK
     revert K nb mb cs9 wr x FX AX nX cX vnX vsX ncX vk vi f
     exact H1.out
    ·revert u14 u15 u130 u131 u132 u133 u134 u135 u136 u137 u138 u139 u140 u141 u142 u143 u144 u145 u146 u147 u148 u149 u150 u151 u152 u153 u154 u155 u156 u157 u158 u159 u160 u161 u162 u163 u164 u165 u166 u167 u168 u169 u170 u171 u172 u173 u174 u175 u176 u177 u178 u179 u180 u181 u182 u183 u184 u185 u186 u187 u188 u189 u190 u191 u192 u193 u194 u195 u196 u197 u198 u199 u200 u201 u202 u203 u204 u205 u206 u207 u208 u209 u210 u211 u212 u213 u214 u215 u216 u217 u218 u219 u220 u221 u222 u223 u224 u225 u226 u227 u228 u229 u230 u231 u232 u233 u234 u235 u236 u16 u17 u18 u19 u20 u21 u22 u23 u24 u25 u26 u27 u28 u29 u30 u31 u32 u33 u34 u35 u36 u37 u38 u39 u40 u41 u42 u43 u44 u45 u46 u47 u48 u49 u50 u51 u52 u53 u54 u55 u56 u57 u58 u59 u60 u61 u62 u63 u64 u65 u66 u67 u68 u69 u70 u71 u72 u73 u74 u75 u76 u77 u78 u79 u80 u81 u82 u83 u84 u85 u86 u87 u88 u89 u90 u91 u92 u93 u94 u95 u96 u97 u98 u99 u100 u101 u102 u103 u104 u105 u106 u107 u108 u109 u110 u111 u112 u113 u114 u115 u116 u117 u118 u119 u120 u121 u122 u123 u124 u125 u126 u127 u128 u129 u237 u238 u239 u240 u241 u242 u243 u244 u245 u246 u247 u248 u249 u250 u251 u252 u253 u254 u255 u256 u257 u258 u259 u260 u261
     rename_i K hK
     revert K nb mb cs9 wr x FX AX nX cX vnX vsX ncX vk vi f
     exact H2.out
    ·revert u14 u15 u130 u131 u132 u133 u134 u135 u136 u137 u138 u139 u140 u141 u142 u143 u144 u145 u146 u147 u148 u149 u150 u151 u152 u153 u154 u155 u156 u157 u158 u159 u160 u161 u162 u163 u164 u165 u166 u167 u168 u169 u170 u171 u172 u173 u174 u175 u176 u177 u178 u179 u180 u181 u182 u183 u184 u185 u186 u187 u188 u189 u190 u191 u192 u193 u194 u195 u196 u197 u198 u199 u200 u201 u202 u203 u204 u205 u206 u207 u208 u209 u210 u211 u212 u213 u214 u215 u216 u217 u218 u219 u220 u221 u222 u223 u224 u225 u226 u227 u228 u229 u230 u231 u232 u233 u234 u235 u236 u16 u17 u18 u19 u20 u21 u22 u23 u24 u25 u26 u27 u28 u29 u30 u31 u32 u33 u34 u35 u36 u37 u38 u39 u40 u41 u42 u43 u44 u45 u46 u47 u48 u49 u50 u51 u52 u53 u54 u55 u56 u57 u58 u59 u60 u61 u62 u63 u64 u65 u66 u67 u68 u69 u70 u71 u72 u73 u74 u75 u76 u77 u78 u79 u80 u81 u82 u83 u84 u85 u86 u87 u88 u89 u90 u91 u92 u93 u94 u95 u96 u97 u98 u99 u100 u101 u102 u103 u104 u105 u106 u107 u108 u109 u110 u111 u112 u113 u114 u115 u116 u117 u118 u119 u120 u121 u122 u123 u124 u125 u126 u127 u128 u129 u237 u238 u239 u240 u241 u242 u243 u244 u245 u246 u247 u248 u249 u250 u251 u252 u253 u254 u255 u256 u257 u258 u259 u260 u261
     rename_i K hK
     revert K nb mb cs9 wr x FX AX nX cX vnX vsX ncX vk vi f y
     exact H3.out)
end Go.Proofs.YtijoollonkibfaaGreatDoor
