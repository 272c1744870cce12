/- The walk of value of json's parser: a scalar. -/
import Derived.Test.YtijoollonkibfaaGreatDoorMI
set_option linter.unusedVariables false
set_option linter.unusedSimpArgs false
set_option linter.defProp false
set_option linter.constructorNameAsVariable false
namespace Go.Proofs.YtijoollonkibfaaGreatDoor
open Go.RowKit
theorem tok_to (t:JTok) (w:World):(Instr.field 67 (.agg (tokC t).toArray) 2).run Tryz.prog w=.ok (.int .i64 (t.to_:Int)) w:=by kernel_rfl
set_option maxRecDepth 100000 in
set_option maxHeartbeats 16000000 in
theorem value_scal_bad {w:World} {B pb:Nat} {F:Nat→Prop} {k:PK} {A:Option Addr} {n c:Nat} {vn vs:Value} {ncs:List Value} {st:PSt} (h:PMx w B pb F k A n c vn vs ncs st) (hok:∀t∈st.left,TokOK t) (hL:LibAt B w) (s:JSpan) (d:Nat) (hd:d≤1000) {t:JTok} {r:List JTok} (hl:st.left=t :: r)
  (hk:¬t.kind=1) (hr:roomV st d=0) (hsv:scalarV t=none):Calls Tryz.prog 10 #[.pointer (some ⟨pb,0,none⟩),.agg (spanC s).toArray,.int .i64 (d:Int)] w (ValR w B pb F k (.error (t.from_,12))):=by
 have hB:=hL.size
 have HX:=Lib.hid (Arr.new w 34 (spanC s))
 have HBd:Below w.heap.size w (w.alloc (.cells (spanC s).toArray 34)):=(Below.refl _ _).alloc (Nat.le_refl _) _
 have hW:=h.below HBd
 go_enter Tryz.func10,Tryz.ntmps10
 go_upto_region 1 with(fail)
 have hlow:w.heap.size<(w.alloc (.cells (spanC s).toArray 34)).heap.size:=HX.out.lt
 generalize (w.alloc (.cells (spanC s).toArray 34))=W at *
 have DA:=fun m=>is_lit (hW.drewN m) hok 91 false (by rw [hl];simp [isV,hk])
 have DB:=fun m=>is_lit (hW.drewN m) hok 123 false (by rw [hl];simp [isV,hk])
 go_quiet ((go_at_call 26;first | (with_reducible exact quiet_left (DA _).out) | (with_reducible exact quiet_left (DB _).out)))
 rename_i nq
 have hWq:=hW.drewN nq
 have hHX:Hid (Arr (W.drewN nq) w.heap.size 34 (spanC s)):=HX.out
 have HBq:Below w.heap.size w (W.drewN nq):=Below.drewN' HBd nq
 have hlowq:w.heap.size<(W.drewN nq).heap.size:=hlow
 generalize W.drewN nq=Wq at *
 clear hW HX HBd hlow DA DB
 have hn:=hWq.len
 obtain⟨g,o,hA,q0,q1,q2,q3⟩:=hWq.head hl
 subst hA
 have c0:=hWq.par.cell' (i:=0) rfl
 rw [hl] at hn
 have hn0:0<n:=by rw [hn];simp
 have hn0':(0:Int)<n:=by omega
 have hn1:((n:Int) == 0)=false:=by simp;omega
 have hk':((t.kind:Int) == 1)=false:=by simp;omega
 have hokt:=hok t (by rw [hl];simp)
 have DR:=room_h0 hWq d hd hr
 have hnl:st.nodes.length<4096:=by unfold roomV at hr;split at hr;cases hr;split at hr;cases hr;omega
 have DO0:=offset_h hWq
 rw [hl] at DO0
 have DO:Hid (Calls Tryz.prog 28 #[.pointer (some ⟨pb,0,none⟩)] Wq fun e w'=>e=.returned (.int .i64 (t.from_:Int))∧Wq=w'):=DO0
 clear DO0
 clear hn q1 q2
 have x3:=hHX.out.cell' (i:=3) rfl
 have f3:=hHX.out.frozen 3
 have HX3:=Lib.hid (hHX.out.store 3 (.int .i64 (t.from_:Int)))
 have x8:=HX3.out.cell' (i:=8) rfl
 have f8:=HX3.out.frozen 8
 have f8q:=hHX.out.frozen 8
 have HX8:=Lib.hid (HX3.out.store 8 (.bool true))
 have hsF:¬F w.heap.size:=fun hf=>by have:=h.hi _ hf;omega
 have hsA:∀ad,(some (⟨g,o,none⟩:Addr))=some ad→ad.block≠w.heap.size:=fun ad e=>by have:=h.tokLt ad e;omega
 have hP2:=(hWq.far (p:=⟨w.heap.size,3,none⟩) hsF hsA (.int .i64 (t.from_:Int))).far (p:=⟨w.heap.size,8,none⟩) hsF hsA (.bool true)
 have hB2:Below w.heap.size w ((Wq.setCell ⟨w.heap.size,3,none⟩ (.int .i64 (t.from_:Int))).setCell ⟨w.heap.size,8,none⟩ (.bool true)):=(HBq.setCell (by simp) _).setCell (by simp) _
 go_upto_region 6 with(first | (go_at_call 27;((with_reducible refine DR.out.mono ?_));rintro e wn ⟨rfl,rfl⟩) | (go_at_call 28;((with_reducible refine DO.out.mono ?_));rintro e wn ⟨rfl,rfl⟩))
 clear x3 f3 x8 f8 f8q HX3 c0 q0 q3
 have hlow2:w.heap.size<((Wq.setCell ⟨w.heap.size,3,none⟩ (.int .i64 (t.from_:Int))).setCell ⟨w.heap.size,8,none⟩ (.bool true)).heap.size:=HX8.out.lt
 generalize ((Wq.setCell ⟨w.heap.size,3,none⟩ (.int .i64 (t.from_:Int))).setCell ⟨w.heap.size,8,none⟩ (.bool true))=W2 at *
 clear hWq hHX DR DO
 obtain⟨As,cs,hvs,hsc,hsm⟩:=own_slice hP2.spn
 have c6:=hP2.par.cell' (i:=6) rfl
 rw [hvs] at c6
 clear hvs
 have c0:=hP2.par.cell' (i:=0) rfl
 obtain⟨g',o',hA',hR⟩:=hP2.headR hl
 obtain⟨rfl,rfl⟩:g=g'∧o=o':=by injection hA' with e;injection e with e1 e2;exact⟨e1,e2⟩
 have hRH:=Lib.hid hR
 clear hA' hR
 have DS0:Hid (∀w,PMx w B pb F k (some ⟨g,o,none⟩) n c vn vs ncs st→LibOK w→Calls Tryz.prog 30 #[.pointer (some ⟨pb,0,none⟩),.agg (tokC t).toArray] w (ScalR w (offV k.en st.left) (scalarV t))):=fun w hp hw=>scalar_any hp t hokt hk hw
 rw [hl] at DS0
 have DS:Hid (∀w,PMx w B pb F k (some ⟨g,o,none⟩) n c vn vs ncs st→LibOK w→Calls Tryz.prog 30 #[.pointer (some ⟨pb,0,none⟩),.agg (tokC t).toArray] w (ScalR w t.from_ (scalarV t))):=DS0
 clear DS0
 have hLw2:LibOK W2:=(hL.step (hB2.mono hB)).ok
 rw [hsv] at DS
 go_wp2_with (first | ((with_reducible show wpList _ _ _ (Oper.mk _ (Op.load 67 (Operand.tmp 80)) _ _ _ _ :: _) _ _);go_loud (refine wpList_load_mid rfl 67 (.tmp 80) rfl (g) (o) rfl (tokC t) _ (hRH.out) Tryz.underlying67 rfl Tryz.sz67 ?_)) | (go_at_call 30;((with_reducible refine(DS.out _ hP2 hLw2).mono ?_));rintro e w3 ⟨hb3,he⟩;replace he:e=failE (t.from_,12):=he;unfold failE at he;subst he))
 exact⟨rfl,ValR.bad (((hB2.trans (hb3.mono hB2.size))).mono hB)⟩
set_option maxRecDepth 100000 in
set_option maxHeartbeats 16000000 in
theorem value_scal_ok {w:World} {B pb:Nat} {F:Nat→Prop} {k:PK} {A:Option Addr} {n c:Nat} {vn vs:Value} {ncs:List Value} {st:PSt} (h:PMx w B pb F k A n c vn vs ncs st) (hok:∀t∈st.left,TokOK t) (hL:LibAt B w) (s:JSpan) (d:Nat) (hd:d≤1000) {t:JTok} {r:List JTok} (hl:st.left=t :: r)
  (hk:¬t.kind=1) (hr:roomV st d=0) {nd:GNode} (hsv:scalarV t=some nd) (hinv:PInv st):Calls Tryz.prog 10 #[.pointer (some ⟨pb,0,none⟩),.agg (spanC s).toArray,.int .i64 (d:Int)] w (ValR w B pb F k (.ok ((st.nodes.length:Int),⟨r,st.nodes ++ [nd],st.spans ++ [{ s with node:=st.nodes.length,from_:=t.from_,to_:=t.to_,whole:=true }]⟩))):=by
 have hB:=hL.size
 have HX:=Lib.hid (Arr.new w 34 (spanC s))
 have HBd:Below w.heap.size w (w.alloc (.cells (spanC s).toArray 34)):=(Below.refl _ _).alloc (Nat.le_refl _) _
 have hW:=h.below HBd
 go_enter Tryz.func10,Tryz.ntmps10
 go_upto_region 1 with(fail)
 have hlow:w.heap.size<(w.alloc (.cells (spanC s).toArray 34)).heap.size:=HX.out.lt
 generalize (w.alloc (.cells (spanC s).toArray 34))=W at *
 have DA:=fun m=>is_lit (hW.drewN m) hok 91 false (by rw [hl];simp [isV,hk])
 have DB:=fun m=>is_lit (hW.drewN m) hok 123 false (by rw [hl];simp [isV,hk])
 go_quiet ((go_at_call 26;first | (with_reducible exact quiet_left (DA _).out) | (with_reducible exact quiet_left (DB _).out)))
 rename_i nq
 have hWq:=hW.drewN nq
 have hHX:Hid (Arr (W.drewN nq) w.heap.size 34 (spanC s)):=HX.out
 have HBq:Below w.heap.size w (W.drewN nq):=Below.drewN' HBd nq
 have hlowq:w.heap.size<(W.drewN nq).heap.size:=hlow
 generalize W.drewN nq=Wq at *
 clear hW HX HBd hlow DA DB
 have hn:=hWq.len
 obtain⟨g,o,hA,q0,q1,q2,q3⟩:=hWq.head hl
 subst hA
 have c0:=hWq.par.cell' (i:=0) rfl
 rw [hl] at hn
 have hn0:0<n:=by rw [hn];simp
 have hn0':(0:Int)<n:=by omega
 have hn1:((n:Int) == 0)=false:=by simp;omega
 have hk':((t.kind:Int) == 1)=false:=by simp;omega
 have hokt:=hok t (by rw [hl];simp)
 have DR:=room_h0 hWq d hd hr
 have hnl:st.nodes.length<4096:=by unfold roomV at hr;split at hr;cases hr;split at hr;cases hr;omega
 have DO0:=offset_h hWq
 rw [hl] at DO0
 have DO:Hid (Calls Tryz.prog 28 #[.pointer (some ⟨pb,0,none⟩)] Wq fun e w'=>e=.returned (.int .i64 (t.from_:Int))∧Wq=w'):=DO0
 clear DO0
 clear hn q1 q2
 have x3:=hHX.out.cell' (i:=3) rfl
 have f3:=hHX.out.frozen 3
 have HX3:=Lib.hid (hHX.out.store 3 (.int .i64 (t.from_:Int)))
 have x8:=HX3.out.cell' (i:=8) rfl
 have f8:=HX3.out.frozen 8
 have f8q:=hHX.out.frozen 8
 have HX8:=Lib.hid (HX3.out.store 8 (.bool true))
 have hsF:¬F w.heap.size:=fun hf=>by have:=h.hi _ hf;omega
 have hsA:∀ad,(some (⟨g,o,none⟩:Addr))=some ad→ad.block≠w.heap.size:=fun ad e=>by have:=h.tokLt ad e;omega
 have hP2:=(hWq.far (p:=⟨w.heap.size,3,none⟩) hsF hsA (.int .i64 (t.from_:Int))).far (p:=⟨w.heap.size,8,none⟩) hsF hsA (.bool true)
 have hB2:Below w.heap.size w ((Wq.setCell ⟨w.heap.size,3,none⟩ (.int .i64 (t.from_:Int))).setCell ⟨w.heap.size,8,none⟩ (.bool true)):=(HBq.setCell (by simp) _).setCell (by simp) _
 go_upto_region 6 with(first | (go_at_call 27;((with_reducible refine DR.out.mono ?_));rintro e wn ⟨rfl,rfl⟩) | (go_at_call 28;((with_reducible refine DO.out.mono ?_));rintro e wn ⟨rfl,rfl⟩))
 clear x3 f3 x8 f8 f8q HX3 c0 q0 q3
 have hlow2:w.heap.size<((Wq.setCell ⟨w.heap.size,3,none⟩ (.int .i64 (t.from_:Int))).setCell ⟨w.heap.size,8,none⟩ (.bool true)).heap.size:=HX8.out.lt
 generalize ((Wq.setCell ⟨w.heap.size,3,none⟩ (.int .i64 (t.from_:Int))).setCell ⟨w.heap.size,8,none⟩ (.bool true))=W2 at *
 clear hWq hHX DR DO
 obtain⟨As,cs,hvs,hsc,hsm⟩:=own_slice hP2.spn
 have c6:=hP2.par.cell' (i:=6) rfl
 rw [hvs] at c6
 clear hvs
 have c0:=hP2.par.cell' (i:=0) rfl
 obtain⟨g',o',hA',hR⟩:=hP2.headR hl
 obtain⟨rfl,rfl⟩:g=g'∧o=o':=by injection hA' with e;injection e with e1 e2;exact⟨e1,e2⟩
 have hRH:=Lib.hid hR
 clear hA' hR
 have DS0:Hid (∀w,PMx w B pb F k (some ⟨g,o,none⟩) n c vn vs ncs st→LibOK w→Calls Tryz.prog 30 #[.pointer (some ⟨pb,0,none⟩),.agg (tokC t).toArray] w (ScalR w (offV k.en st.left) (scalarV t))):=fun w hp hw=>scalar_any hp t hokt hk hw
 rw [hl] at DS0
 have DS:Hid (∀w,PMx w B pb F k (some ⟨g,o,none⟩) n c vn vs ncs st→LibOK w→Calls Tryz.prog 30 #[.pointer (some ⟨pb,0,none⟩),.agg (tokC t).toArray] w (ScalR w t.from_ (scalarV t))):=DS0
 clear DS0
 have hLw2:LibOK W2:=(hL.step (hB2.mono hB)).ok
 rw [hsv] at DS
 have hnd:=Lib.hid (scalarV_leaf hsv)
 clear hsv
 go_upto_region 9 with(first | ((with_reducible show wpList _ _ _ (Oper.mk _ (Op.load 67 (Operand.tmp 80)) _ _ _ _ :: _) _ _);go_loud (refine wpList_load_mid rfl 67 (.tmp 80) rfl (g) (o) rfl (tokC t) _ (hRH.out) Tryz.underlying67 rfl Tryz.sz67 ?_)) | (go_at_call 30;((with_reducible refine(DS.out _ hP2 hLw2).mono ?_));rintro e w3 ⟨hb3,rfl⟩;have hP3:=hP2.below hb3;have DAdd:=Lib.hid (add_any hP3 (by omega) (Nat.le_trans hB (Nat.le_trans hB2.size hb3.size)) nd.kind nd.text)) | (go_at_call 29;(refine DAdd.out.mono ?_);rintro e w4 ⟨F',vn',ncs',rfl,hP4,hS4,hF4⟩;have HX4:=hS4.arr (HX8.out.keep hb3) hsF;have z0:=HX4.cell' (i:=0) rfl;have y0:=HX4.frozen 0))
 have hsF4:¬F' w.heap.size:=hS4.out (Nat.lt_of_lt_of_le hlow2 hb3.size) hsF
 have HX5:=Lib.hid (HX4.store 0 (.int .i64 (st.nodes.length:Int)))
 have hP5:=hP4.far (p:=⟨w.heap.size,0,none⟩) hsF4 hsA (.int .i64 (st.nodes.length:Int))
 have hS23:PStep w w3 F F:=PStep.of_below (hB2.trans (hb3.mono hB2.size))
 have hS5:PStep w (w4.setCell ⟨w.heap.size,0,none⟩ (.int .i64 (st.nodes.length:Int))) F F':=(hS23.trans hS4).far (.inl (Nat.le_refl _)) _
 have hlow5:w.heap.size<(w4.setCell ⟨w.heap.size,0,none⟩ (.int .i64 (st.nodes.length:Int))).heap.size:=HX5.out.lt
 clear z0 y0 HX4 c0 c6 DS DAdd hS4 hS23 hP3 hP4
 generalize (w4.setCell ⟨w.heap.size,0,none⟩ (.int .i64 (st.nodes.length:Int)))=W5 at *
 have DT:=Lib.hid (take_any hP5 (t:=t) (r:=r) hl)
 have hfld:=tok_to t
 go_upto_region 10 with(go_at_call 31;(refine DT.out.mono ?_);rintro e w6 ⟨A6,n6,c6,rfl,hP6,hS6⟩;have HX6:=hS6.arr HX5.out hsF4;have z4:=HX6.cell' (i:=4) rfl;have y4:=HX6.frozen 4;have hlow6:w.heap.size<w6.heap.size:=HX6.lt)
 have HX7:=Lib.hid (HX6.store 4 (.int .i64 (t.to_:Int)))
 have hsA6:∀ad,A6=some ad→ad.block≠w.heap.size:=fun ad e=>by
  obtain⟨_,_,C,fz,hb⟩:=hP6.tokA ad e
  intro e2
  rw [e2] at hb
  exact absurd (cells_kind hb HX6) (by decide)
 have hP7:=hP6.far (p:=⟨w.heap.size,4,none⟩) hsF4 hsA6 (.int .i64 (t.to_:Int))
 have hS7:PStep w (w6.setCell ⟨w.heap.size,4,none⟩ (.int .i64 (t.to_:Int))) F F':=(hS5.trans hS6).far (.inl (Nat.le_refl _)) _
 have hlow7:w.heap.size<(w6.setCell ⟨w.heap.size,4,none⟩ (.int .i64 (t.to_:Int))).heap.size:=HX7.out.lt
 clear z4 y4 HX6 DT HX5 hP5 hP6 hS5 hS6
 generalize (w6.setCell ⟨w.heap.size,4,none⟩ (.int .i64 (t.to_:Int)))=W7 at *
 obtain⟨spn,hspn⟩:∃x,spanC { s with node:=st.nodes.length,from_:=t.from_,to_:=t.to_,whole:=true } = x:=⟨_,rfl⟩
 have HX7':Hid (Arr W7 w.heap.size 34 [.int .i64 (st.nodes.length:Int),.int .i64 s.parent,.int .i64 s.entry,.int .i64 (t.from_:Int),.int .i64 (t.to_:Int),.int .i64 s.kf,.int .i64 s.kt,.bool s.alias_,.bool true]):=HX7.out
 clear hfld HX7 hspn
 have e0:=HX7'.out.cell' (i:=0) rfl
 have e1:=HX7'.out.cell' (i:=1) rfl
 have e2:=HX7'.out.cell' (i:=2) rfl
 have e3:=HX7'.out.cell' (i:=3) rfl
 have e4:=HX7'.out.cell' (i:=4) rfl
 have e5:=HX7'.out.cell' (i:=5) rfl
 have e6:=HX7'.out.cell' (i:=6) rfl
 have e7:=HX7'.out.cell' (i:=7) rfl
 have e8:=HX7'.out.cell' (i:=8) rfl
 have cc6:=hP7.par.cell' (i:=6) rfl
 have hpne:w.heap.size≠pb:=fun e=>hsF4 (by rw [e];exact hP7.pF)
 have d6:=(hP7.par.alloc (.cells #[.int .i64 (st.nodes.length:Int),.int .i64 s.parent,.int .i64 s.entry,.int .i64 (t.from_:Int),.int .i64 (t.to_:Int),.int .i64 s.kf,.int .i64 s.kt,.bool s.alias_,.bool true] 34)).cell' (i:=6) rfl
 have hPd:Arr W7.drew pb 51 [.slice A6 n6 c6,.int .i64 (k.en:Int),k.f,k.s,vn',k.r,vs,k.n]:=hP7.par
 have hHd:Arr W7.drew w.heap.size 34 [.int .i64 (st.nodes.length:Int),.int .i64 s.parent,.int .i64 s.entry,.int .i64 (t.from_:Int),.int .i64 (t.to_:Int),.int .i64 s.kf,.int .i64 s.kt,.bool s.alias_,.bool true]:=HX7'.out
 have hnpb:=own_arr hP7.spn hP7.par (by decide)
 have hspl:st.spans.length≤4096:=by have:=hinv.1;have:=hinv.2;omega
 have hnsb:vs.ownBlock≠some w.heap.size:=fun e=>hsF4 (hP7.spnF _ e)
 have hBw7:B≤W7.heap.size:=by omega
 have hownd:W7.drew.ownsRow B 34 9 vs st.spans.length (spansC st.spans):=hP7.spn
 go_region_law (refine step_apS rfl (.tmp 96) (.tmp 98) 26 rfl B 34 _ 9 _ Tryz.underlying26 Tryz.infoS34 rfl (by decide) _ st.spans.length (spansC st.spans) rfl (hownd.alloc _) ⟨W7.heap.size,0,none⟩ _ [.int .i64 (st.nodes.length:Int),.int .i64 s.parent,.int .i64 s.entry,.int .i64 (t.from_:Int),.int .i64 (t.to_:Int),.int .i64 s.kf,.int .i64 s.kt,.bool s.alias_,.bool true] rfl rfl (cells_new _ _ _) rfl (by unfold maxLen;omega) (by omega) (by simp;omega) ?_;intro v' w8 hown8 hgr8 hat8;obtain⟨A8,c8,rfl,hc8,hm8⟩:=own_slice hown8;have P8:=(hPd.alloc (.cells #[.int .i64 (st.nodes.length:Int),.int .i64 s.parent,.int .i64 s.entry,.int .i64 (t.from_:Int),.int .i64 (t.to_:Int),.int .i64 s.kf,.int .i64 s.kt,.bool s.alias_,.bool true] 34)).grown hgr8 (fun e=>hnpb e.symm);have p6:=P8.cell' (i:=6) rfl;have q6:=P8.frozen 6;have H8:=(hHd.alloc (.cells #[.int .i64 (st.nodes.length:Int),.int .i64 s.parent,.int .i64 s.entry,.int .i64 (t.from_:Int),.int .i64 (t.to_:Int),.int .i64 s.kf,.int .i64 s.kt,.bool s.alias_,.bool true] 34)).grown hgr8 (fun e=>hnsb e.symm);have hgr8':(W7.alloc (.cells #[.int .i64 (st.nodes.length:Int),.int .i64 s.parent,.int .i64 s.entry,.int .i64 (t.from_:Int),.int .i64 (t.to_:Int),.int .i64 s.kf,.int .i64 s.kt,.bool s.alias_,.bool true] 34)).drew.grownBy w8 vs.ownBlock:=hgr8;have hat8':(Value.slice A8 (st.spans.length+1) c8).ownBlock=vs.ownBlock∨(Value.slice A8 (st.spans.length+1) c8).ownBlock=some (W7.alloc (.cells #[.int .i64 (st.nodes.length:Int),.int .i64 s.parent,.int .i64 s.entry,.int .i64 (t.from_:Int),.int .i64 (t.to_:Int),.int .i64 s.kf,.int .i64 s.kt,.bool s.alias_,.bool true] 34)).drew.heap.size:=hat8;clear hgr8 hat8)
 all_goals
  have hbw1:Below W7.heap.size W7 (W7.alloc (.cells #[.int .i64 (st.nodes.length:Int),.int .i64 s.parent,.int .i64 s.entry,.int .i64 (t.from_:Int),.int .i64 (t.to_:Int),.int .i64 s.kf,.int .i64 s.kt,.bool s.alias_,.bool true] 34)).drew:=((Below.refl _ _).alloc (Nat.le_refl _) _).drew
  obtain⟨F9,hP9,hS9,hF9⟩:=hP7.appendSpan hbw1 hgr8' hown8 hat8' (sp:={ s with node:=st.nodes.length,from_:=t.from_,to_:=t.to_,whole:=true }) rfl
  have H9:=H8.far (p:=⟨pb,6,none⟩) hpne (.slice A8 (st.spans.length+1) c8)
  have z9:=H9.cell' (i:=0) rfl
  have hS:PStep w (w8.setCell ⟨pb,6,none⟩ (.slice A8 (st.spans.length+1) c8)) F F9:=hS7.trans hS9
  clear P8 p6 q6 H8 H9 hgr8' hat8' hown8 hbw1 e0 e1 e2 e3 e4 e5 e6 e7 e8 cc6 d6 hPd hHd hownd hS9 HX7'
  generalize (w8.setCell ⟨pb,6,none⟩ (.slice A8 (st.spans.length+1) c8))=W9 at *
  go_wp2
  go_ret
  have hnn:=hnd.out
  rw [←hnn] at hP9
  exact⟨F9,rfl,⟨_,_,_,_,_,_,hP9⟩,hS⟩
end Go.Proofs.YtijoollonkibfaaGreatDoor
