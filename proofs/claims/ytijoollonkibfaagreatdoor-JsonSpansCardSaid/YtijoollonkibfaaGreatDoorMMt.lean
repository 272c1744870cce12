/- value's walk at an entry of a map: a part. -/
import Derived.Test.YtijoollonkibfaaGreatDoorMMg
import Derived.Deep.CutRange
set_option linter.unusedVariables false
set_option linter.unusedSimpArgs false
set_option linter.defProp false
set_option linter.constructorNameAsVariable false
namespace Go.Proofs.YtijoollonkibfaaGreatDoor
open Go.RowKit
set_option maxRecDepth 100000 in
set_option maxHeartbeats 16000000 in
theorem tail_m {w:World} {B pb:Nat} {F:Nat→Prop} {k:PK} {A:Option Addr} {n c:Nat} {vn vs:Value} {ncs:List Value} {st:PSt} (h:PMx w B pb F k A n c vn vs ncs st) (hok:∀t∈st.left,TokOK t) (hL:LibAt B w) (s:JSpan) (d:Nat) (hd:d≤1000) {t:JTok} {r:List JTok} (hl:st.left=t :: r)
  (hk:t.kind=1) (hx:t.text = [123]) (hr:roomV st d=0) (hinv:PInv st) (L f0:Nat) (hll:st.left.length≤L) (hLb:L≤65536) (hfu:2*st.left.length<f0+1) (ih:∀f',f'≤f0→ValOK B pb k L f') (oc:Except PErr PLoop) (res:Except PErr (Int×PSt))
  (HO:Hid (itemsV k.en f0 true st.spans.length d ⟨⟨r,st.nodes ++ [⟨10,[],false,[],[]⟩],st.spans ++ [{ s with node:=st.nodes.length,from_:=t.from_,whole:=true }]⟩,[],[],[]⟩=oc))
  (HR:Hid (contRes st.nodes.length 10 st.spans.length oc=res)):Arg2 (goshell_m w B pb F k st s d t r L f0 oc res):=by
 intro K hK nb hne1 mb hw10 cs9 hcs9 wr x hnx hsx f hfx hff hm0 hc K2 cb hcb wc hcut
 intros
 have hB:=hL.size
 have hd32:d≤32:=(room0 hr).1
 have hnl:st.nodes.length<4096:=(room0 hr).2
 have hspl:st.spans.length≤4096:=by have:=hinv.1;have:=hinv.2;omega
 obtain⟨z,sp,⟨FZ,AZ,nZ,cZ,vnZ,vsZ,ncZ,vkZ,viZ,hJ,hcF,hC⟩,⟨hz1,hz2,hz3⟩,HEV,HOV⟩:=hcut
 have n4:=hJ.nd.cell' (i:=4) rfl
 obtain⟨Ai,ci,hvi,hic,him⟩:=own_slice hJ.oi
 subst hvi
 go_upto_region 39 with(fail)
 have hJd:=hJ.below ((Below.refl _ _).drew)
 have DV:=Lib.hid (ih f (by omega) wc.drew FZ z.st sp (d+1) ⟨_,_,_,_,_,_,hJd.pm⟩ hJd.tk hJd.iv hJd.li (by omega) (by omega) (by have:=hJd.l1;omega))
 have hdd:((d+1:Nat):Int)=IntKind.i64.wrap ((d:Int)+1):=by rw [show IntKind.i64.wrap ((d:Int)+1)=(d:Int)+1 by rw [IntKind.wrap_i64];omega];omega
 rw [hdd] at DV
 change Hid (Calls Tryz.prog 10 #[.pointer (some ⟨pb,0,none⟩),.agg #[.int .i64 sp.node,.int .i64 sp.parent,.int .i64 sp.entry,.int .i64 sp.from_,.int .i64 sp.to_,.int .i64 sp.kf,.int .i64 sp.kt,.bool sp.alias_,.bool sp.whole],.int .i64 (IntKind.i64.wrap ((d:Int)+1))] wc.drew (ValR wc.drew B pb FZ k (valueV k.en f z.st sp (d+1)))) at DV
 have hCd:Arr wc.drew cb 34 [.int .i64 sp.node,.int .i64 sp.parent,.int .i64 sp.entry,.int .i64 sp.from_,.int .i64 sp.to_,.int .i64 sp.kf,.int .i64 sp.kt,.bool sp.alias_,.bool sp.whole]:=hC
 have q0:=hCd.cell' (i:=0) rfl
 have q1:=hCd.cell' (i:=1) rfl
 have q2:=hCd.cell' (i:=2) rfl
 have q3:=hCd.cell' (i:=3) rfl
 have q4:=hCd.cell' (i:=4) rfl
 have q5:=hCd.cell' (i:=5) rfl
 have q6:=hCd.cell' (i:=6) rfl
 have q7:=hCd.cell' (i:=7) rfl
 have q8:=hCd.cell' (i:=8) rfl
 have n4:=hJd.nd.cell' (i:=4) rfl
 have hBd:Below B w wc.drew:=hJd.step.below h.lo hB
 have hsw:w.heap.size≤wc.drew.heap.size:=hJd.step.size
 have hyl:=hJ.l1
 clear hJ hdd
 go_region_law (first | ((try go_simp);go_at_call 10;go_loud (refine valCalls DV.out ?_ ?_;rotate_left;(intro w16 er ho hb;exact valpan2 ho HR.out HEV.out hBd hb rfl rfl);rintro w16 v' st' F16 hv ⟨A16,n16,c16,vn16,vs16,ncs16,hP16⟩ hS16;obtain⟨hiv,hsub⟩:=(val_ok k.en f).1 _ _ _ _ _ hJd.iv hv;have hJ2:=hJd.next (y:=⟨st',z.ks,z.keys,z.items⟩) hS16 hP16 rfl rfl rfl hiv (hsub.ok hJd.tk) (by have:=hsub.len;show st'.left.length≤z.st.left.length;omega);have p4:=hJ2.nd.cell' (i:=4) rfl;have p4a:=(hJ2.nd.alloc (.cells #[.int .i64 v'] 3)).cell' (i:=4) rfl;have hs16:w.heap.size≤w16.heap.size:=hJ2.step.size;have hil:=hJ2.l1;replace hv:=Lib.hid hv)) | (refine step_apS rfl (.tmp 228) (.tmp 234) 38 rfl w.heap.size 3 _ 1 _ Tryz.underlying38 Tryz.info3 rfl (by decide) _ z.items.length (I64 z.items) rfl (hJ2.oi.alloc _) ⟨w16.heap.size,0,none⟩ _ [.int .i64 v'] rfl rfl (cells_new _ _ _) rfl (by unfold maxLen;simp at hil;omega) (by simp at hil;omega) (by simp;omega) ?_;intro v2 w18 hown18 hgr18 hat18;obtain⟨A18,c18,rfl,hc18,hm18⟩:=own_slice hown18;have hN18:=(hJ2.nd.alloc (.cells #[.int .i64 v'] 3)).grown hgr18 (fun e=>own_arr hJ2.oi hJ2.nd (by decide) e.symm);have p18:=hN18.cell' (i:=4) rfl;have f18:=hN18.frozen 4))
 all_goals
  have hll3:=hsub.len
  have hsn:=hsub.nodes
  have hss:=hsub.spans
  have hL3:=hJ2.pushItem (ob:=.cells #[.int .i64 v'] 3) hgr18 hown18 hat18 (by show z.items.length+1+st'.left.length≤L;omega)
  clear p4 p4a p18 f18 hN18 hown18 hgr18 hat18
  generalize (w18.setCell ⟨nb,4,none⟩ (.slice A18 (z.items.length+1) c18))=W19 at *
  go_wp2_with fail
  go_roundw
  case rel=>exact⟨f,_,⟨_,_,_,_,_,_,_,_,_,hL3⟩,Lib.hid (HOV.out _ _ hv.out),(by show 2*st'.left.length+1<f;omega),by omega,(by show st.nodes.length<st'.nodes.length;omega),(by show st.spans.length<st'.spans.length;omega)⟩
  case measure=>have hq:=leftN_of hL3.pm;have hl4:st'.left.length+1≤z.st.left.length:=hll3;rw [hm0,hq];show st'.left.length<_;omega
end Go.Proofs.YtijoollonkibfaaGreatDoor
