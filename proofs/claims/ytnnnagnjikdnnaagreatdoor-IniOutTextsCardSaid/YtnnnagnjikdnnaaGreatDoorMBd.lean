/- canon.normal, for any graph whose visit ends. -/
import Derived.Test.YtnnnagnjikdnnaaGreatDoorMBc
import Derived.Test.YtnnnagnjikdnnaaGreatDoorMAt
import Derived.Laws.ResultCell
import Derived.Laws.Rows
import Derived.Test.YtnnnagnjikdnnaaGreatDoorMAk
import Derived.Test.YtnnnagnjikdnnaaGreatDoorMAz
import Derived.Test.YtnnnagnjikdnnaaGreatDoorMAi
import Derived.Test.YtnnnagnjikdnnaaGreatDoorMAd
set_option linter.unusedVariables false
set_option linter.unusedSimpArgs false
set_option linter.defProp false
set_option linter.constructorNameAsVariable false
namespace Go.Proofs.YtnnnagnjikdnnaaGreatDoor
open Go.RowKit
theorem rep_set (n i:Nat) (h:i<n):(I64 (List.replicate i (-1) ++ List.replicate (n - i) 0)).set i (.int .i64 (-1))=I64 (List.replicate (i+1) (-1) ++ List.replicate (n - (i+1)) 0):=by
 rw [I64_set,List.set_append_right _ _ (by simp),List.length_replicate,Nat.sub_self,show n - i=(n - (i+1))+1 by omega,List.replicate_succ,List.set_cons_zero,List.replicate_succ',List.append_assoc]
 rfl
theorem negs_rep (n:Nat):negs (List.replicate n (-1))=n:=by
 unfold negs
 rw [List.countP_replicate]
 simp
set_option maxRecDepth 20000 in
set_option maxHeartbeats 16000000 in
theorem normal_any {B g o c r n:Nat} {nodes:List GNode} (hn:nodes.length=n) (hI:Idx nodes) (hL:NL 65536 nodes) (hN:nodes.length≤4096) (hE:∀k,k<nodes.length→(ndAt nodes k).kind=10→(ndAt nodes k).ord=false→EntOK nodes (ndAt nodes k)) (hM:∀k,k<nodes.length→(ndAt nodes k).kind=10→(ndAt nodes k).keys.length=(ndAt nodes k).items.length)
  (hr:r<nodes.length) {v:Int} {s':NSt} (hv:visitN nodes (entV nodes) (nodes.length+1) (r:Int) ⟨List.replicate nodes.length (-1),0,List.replicate nodes.length nd0⟩=some (v,s')) (w:World) (hG:GRd w B g o nodes) :
  Calls Tryz.prog 27 #[.agg #[.slice (some ⟨g,o,none⟩) n c,.int .i64 (r:Int)]] w fun e w'=>∃om,e=.returned (.agg #[.slice (some ⟨om,0,none⟩) n n,.int .i64 0])∧Below w.heap.size w w'∧w.heap.size+1<om∧(∃ncs,Arr w' om 30 ncs∧NodesRd w' (fun _=>True) ncs s'.out)∧s'.out.length=n:=by
 have DV:=Lib.hid (fun e=>visitN_any (w0:=w) (B:=w.heap.size) (g:=g) (o:=o) (c:=c) (nodes:=nodes) (root:=(r:Int)) (e:=e) hI hL hN hE hM (nodes.length+1))
 have HV:=Lib.hid hv
 have HN:=Lib.hid hn
 have HG:=Lib.hid (hG.up hG.2.1 (Nat.le_refl _))
 have hnl:n≤4096:=by omega
 have hrn:r<n:=by omega
 have hr0:(0:Int)≤r:=by omega
 have hr1:(r:Int)<n:=by omega
 have DO:=Lib.hid (fun w'=>of_any (g:=g) (o:=o) (c:=c) (root:=(r:Int)) hnl w')
 obtain⟨h1,h2,hb1,hz1⟩:=box2 w 26 26 [.slice (some ⟨g,o,none⟩) n c,.int .i64 (r:Int)] [.slice none 0 0,.int .i64 0]
 clear hv hn hG hI hL hN hE hM hr
 go_enter Tryz.func27,Tryz.ntmps27
 go_upto_region 1 with(fail)
 obtain⟨gb,hgb⟩:∃x,w.heap.size=x:=⟨_,rfl⟩
 have HGB:=Lib.hid hgb
 have HB:=Lib.hid hb1
 generalize ((w.alloc (.cells #[.slice (some ⟨g,o,none⟩) n c,.int .i64 (r:Int)] 26)).alloc (.cells #[.slice none 0 0,.int .i64 0] 26))=W at *
 rw [hgb] at h1 h2 hz1 HB ⊢
 clear hgb hb1
 have hWs:=hz1.out
 have HWS:=Lib.hid hWs
 clear hWs
 have x0:=h1.out.cell' (i:=0) rfl
 have x1:=h1.out.cell' (i:=1) rfl
 go_upto_region 2 with(go_at_call 57;((with_reducible refine(DO.out _).mono ?_));rintro e w1 ⟨tb,sb,rfl,ht1,ht2,hb2,hT⟩;have hT1:=Lib.hid (Arr.new w1 107 [.pointer (some ⟨tb,0,none⟩)]);have hT2:Below w1.heap.size w1 (w1.alloc (.cells #[.pointer (some ⟨tb,0,none⟩)] 107)):=(Below.refl _ _).alloc (Nat.le_refl _) _)
 clear x0 x1 DO
 have l0:gb+1<tb:=by have:=HWS.out;omega
 have l1:gb+1<sb:=by have:=HWS.out;omega
 have l2:tb<w1.heap.size:=hT.tab.lt
 have l3:sb<w1.heap.size:=hT.srt.lt
 have HB2:=Lib.hid ((HB.out.trans (hb2.mono (by have:=HWS.out;omega))).trans (hT2.mono (by omega)))
 have h1b:=Lib.hid ((h1.out.keep hb2).keep hT2)
 have h2b:=Lib.hid ((h2.out.keep hb2).keep hT2)
 have hTb:=Lib.hid (hT.keep hT2)
 clear hb2 ht1 ht2 hT h1 h2 hT2 HB hz1 HWS
 generalize (w1.alloc (.cells #[.pointer (some ⟨tb,0,none⟩)] 107))=w2 at *
 obtain⟨tp,htp⟩:∃x,w1.heap.size=x:=⟨_,rfl⟩
 rw [htp] at hT1 l2 l3 ⊢
 clear htp
 have l4:tp<w2.heap.size:=hT1.out.lt
 have x0:=h1b.out.cell' (i:=0) rfl
 go_upto_region 3 with(at_make;go_loud (refine wpList_mk rfl _ _ 28 rfl 3 _ _ Tryz.underlying28 infoInt rfl _ _ _ _ rfl rfl n n (by omega) (by omega) (by omega) (by omega) (by unfold maxLen;omega) ?_;intro am w3 ham hAM hb3 hz3))
 clear x0
 have l5:tp<am:=by have:=ham.out;omega
 have hBt:Hid (Arr (w3.alloc (.cells #[.slice (some ⟨am,0,none⟩) n n] 28)) w3.heap.size 28 [.slice (some ⟨am,0,none⟩) n n]):=Arr.new w3 _ _
 have hb4:Below w3.heap.size w3 (w3.alloc (.cells #[.slice (some ⟨am,0,none⟩) n n] 28)):=(Below.refl _ _).alloc (Nat.le_refl _) _
 have l6:am<w3.heap.size:=hAM.out.lt
 have HB4:=Lib.hid ((HB2.out.trans (hb3.mono (by omega))).trans (hb4.mono (by omega)))
 have h1c:=Lib.hid ((h1b.out.keep hb3).keep hb4)
 have h2c:=Lib.hid ((h2b.out.keep hb3).keep hb4)
 have hTc:=Lib.hid ((hTb.out.keep hb3).keep hb4)
 have hTpc:=Lib.hid ((hT1.out.keep hb3).keep hb4)
 have hAM4:Hid (Arr (w3.alloc (.cells #[.slice (some ⟨am,0,none⟩) n n] 28)) am 3 (I64 (List.replicate 0 (-1) ++ List.replicate (n - 0) 0))):=by
  rw [Nat.sub_zero];show Hid (Arr _ am 3 (I64 (List.replicate n 0)));rw [←I64_rep];exact hAM.out.keep hb4
 clear hAM hb3 hz3 ham hb4 h1b h2b hTb hT1 HB2
 generalize (w3.alloc (.cells #[.slice (some ⟨am,0,none⟩) n n] 28))=w4 at *
 obtain⟨bat,hbat⟩:∃x,w3.heap.size=x:=⟨_,rfl⟩
 rw [hbat] at hBt l6 ⊢
 clear hbat
 have l7:bat<w4.heap.size:=hBt.out.lt
 have b0:=hBt.out.cell' (i:=0) rfl
 go_upto_region 4 with(fail)
 clear b0
 go_loopw [5,17] (fun _ v wr=>∃(i:Nat),i≤n∧v=.int .i64 (i:Int)∧Hid (Arr wr am 3 (I64 (List.replicate i (-1) ++ List.replicate (n - i) 0)))∧Hid (w4.grownBy wr (some am))) (fun _ v _=>n - (intOf v).toNat)
 case atStart=>exact⟨0,Nat.zero_le _,rfl,hAM4,World.grownBy.refl _ _⟩
 case round=>
  clear hAM4
  obtain⟨i,hi,rfl,hLr,hgr⟩:=hrel
  have hBr:=Lib.hid (hBt.out.grown hgr.out (some_ne (by omega)))
  have b0:=hBr.out.cell' (i:=0) rfl
  by_cases him:i=n
  ·have hi':¬(i:Int)<n:=by omega
   obtain⟨w5,hw5⟩:∃x:World,x=wr:=⟨_,rfl⟩
   subst hw5
   have hAM5:Hid (Arr w5 am 3 (I64 (List.replicate n (-1)))):=by
    have:=hLr.out
    rw [him,Nat.sub_self,List.replicate_zero,List.append_nil] at this
    exact this
   have h1d:=Lib.hid (h1c.out.grown hgr.out (some_ne (by omega)))
   have h2d:=Lib.hid (h2c.out.grown hgr.out (some_ne (by omega)))
   have hTd:Hid (TabN w5 tb sb g o c n (r:Int) (List.replicate n (.slice none 0 0))):=⟨hTc.out.tab.grown hgr.out (some_ne (by omega)),hTc.out.srt.grown hgr.out (some_ne (by omega))⟩
   have hTpd:=Lib.hid (hTpc.out.grown hgr.out (some_ne (by omega)))
   have HB5:=Lib.hid (HB4.out.grown hgr.out (by have:=HB4.out.size;omega) (fun k e=>by have:=Option.some.inj e;omega))
   have l8:bat<w5.heap.size:=hBr.out.lt
   clear hLr hgr hBt h1c h2c hTc hTpc HB4 b0
   clear him
   have x0:=h1d.out.cell' (i:=0) rfl
   go_upto_region 9 with(at_make;go_loud (refine wpList_mkZ rfl _ _ 24 rfl 30 zNd 5 _ Tryz.underlying24 infoNd _ _ _ _ rfl rfl n n (by omega) (by omega) (by omega) (by omega) (by unfold maxLen;omega) ?_;intro om w6 hom hOM hb6 hz6;have hOu:Hid (Arr (w6.alloc (.cells #[.slice (some ⟨om,0,none⟩) n n,.int .i64 0] 26)) w6.heap.size 26 [.slice (some ⟨om,0,none⟩) n n,.int .i64 0]):=Arr.new w6 _ _;have hb7:Below w6.heap.size w6 (w6.alloc (.cells #[.slice (some ⟨om,0,none⟩) n n,.int .i64 0] 26)):=(Below.refl _ _).alloc (Nat.le_refl _) _))
   clear x0
   have l9:bat<om:=by have:=hom.out;omega
   have l10:om<w6.heap.size:=hOM.out.lt
   have HB7:=Lib.hid ((HB5.out.trans (hb6.mono (by omega))).trans (hb7.mono (by omega)))
   have h1e:=Lib.hid ((h1d.out.keep hb6).keep hb7)
   have h2e:=Lib.hid ((h2d.out.keep hb6).keep hb7)
   have hTe:=Lib.hid ((hTd.out.keep hb6).keep hb7)
   have hTpe:=Lib.hid ((hTpd.out.keep hb6).keep hb7)
   have hAMe:=Lib.hid ((hAM5.out.keep hb6).keep hb7)
   have hBte:=Lib.hid ((hBr.out.keep hb6).keep hb7)
   have hOMe:=Lib.hid (hOM.out.keep hb7)
   clear h1d h2d hTd hTpd hAM5 hBr hOM HB5 hb6 hb7 hz6 hom
   generalize (w6.alloc (.cells #[.slice (some ⟨om,0,none⟩) n n,.int .i64 0] 26))=w7 at *
   obtain⟨ou,hou⟩:∃x,w6.heap.size=x:=⟨_,rfl⟩
   rw [hou] at hOu l10 ⊢
   clear hou
   have l11:ou<w7.heap.size:=hOu.out.lt
   obtain⟨hCn,hVi,hb8,hz8⟩:=box2 w7 3 109 [.int .i64 0] [.nilFunc]
   have HB8:=Lib.hid (HB7.out.trans (hb8.mono (by omega)))
   have h1f:=Lib.hid (h1e.out.keep hb8)
   have h2f:=Lib.hid (h2e.out.keep hb8)
   have hTf:=Lib.hid (hTe.out.keep hb8)
   have hTpf:=Lib.hid (hTpe.out.keep hb8)
   have hAMf:=Lib.hid (hAMe.out.keep hb8)
   have hBtf:=Lib.hid (hBte.out.keep hb8)
   have hOMf:=Lib.hid (hOMe.out.keep hb8)
   have hOuf:=Lib.hid (hOu.out.keep hb8)
   go_upto_region 11 with(fail)
   clear h1e h2e hTe hTpe hAMe hBte hOMe hOu HB7 hb8
   generalize ((w7.alloc (.cells #[.int .i64 0] 3)).alloc (.cells #[.nilFunc] 109))=w8 at *
   obtain⟨cn,hcn⟩:∃x,w7.heap.size=x:=⟨_,rfl⟩
   rw [hcn] at hCn hVi l11 hz8 ⊢
   clear hcn
   have z0:=hVi.out.cell' (i:=0) rfl
   have zf:=hVi.out.frozen 0
   obtain⟨fv,hfv⟩:∃fv,fv=Value.func (.func 58) #[] #[.pointer (some ⟨bat,0,none⟩),.pointer (some ⟨cn,0,none⟩),.pointer (some ⟨gb,0,none⟩),.pointer (some ⟨tp,0,none⟩),.pointer (some ⟨cn+1,0,none⟩),.pointer (some ⟨ou,0,none⟩)]:=⟨_,rfl⟩
   have HFN:Hid (normFn ⟨bat,cn,gb,tp,cn+1,ou,am,om,tb,sb⟩=fv):=by show _=_;rw [hfv];rfl
   have hB9:Hid (Below gb w (w8.setCell ⟨cn+1,0,none⟩ fv)):=HB8.out.setCell (p:=⟨cn+1,0,none⟩) (show gb≤cn+1 by omega) fv
   have hYE:Hid (NmE w (w8.setCell ⟨cn+1,0,none⟩ fv) w.heap.size g o c nodes (r:Int) ⟨bat,cn,gb,tp,cn+1,ou,am,om,tb,sb⟩ (fun _=>False) ⟨List.replicate n (-1),0,List.replicate n nd0⟩ (madeCells zNd.cells (n*5)).toList (List.replicate n (.slice none 0 0))):={
    be:=by rw [HGB.out];exact hB9.out
    gd:=HG.out.below (by rw [HGB.out];exact hB9.out) (Nat.le_refl _)
    bat:=by rw [HN.out];exact hBtf.out.far (p:=⟨cn+1,0,none⟩) (show bat≠cn+1 by omega) fv
    cn:=hCn.out.far (p:=⟨cn+1,0,none⟩) (show cn≠cn+1 by omega) fv
    gr:=by rw [HN.out];exact h1f.out.far (p:=⟨cn+1,0,none⟩) (show gb≠cn+1 by omega) fv
    tp:=hTpf.out.far (p:=⟨cn+1,0,none⟩) (show tp≠cn+1 by omega) fv
    vi:=by rw [HFN.out];exact hVi.out.store 0 fv
    ou:=by rw [HN.out];exact hOuf.out.far (p:=⟨cn+1,0,none⟩) (show ou≠cn+1 by omega) fv
    am:=hAMf.out.far (p:=⟨cn+1,0,none⟩) (show am≠cn+1 by omega) fv
    om:=hOMf.out.far (p:=⟨cn+1,0,none⟩) (show om≠cn+1 by omega) fv
    rd:=NodesRd.zero _ _ n
    rl:=fun b h=>h.elim
    tab:=by rw [HN.out];exact⟨hTf.out.tab.far (p:=⟨cn+1,0,none⟩) (show tb≠cn+1 by omega) fv,hTf.out.srt.far (p:=⟨cn+1,0,none⟩) (show sb≠cn+1 by omega) fv⟩
    lo:=fun b hb=>by have:=HGB.out;rcases hb with h | h | h | h <;> (simp only at h;omega)
    d1:=by show am≠cn;omega
    d2:=by show gb≠ou;omega
    d3:=by show bat≠sb;omega }
   have hRB:=Lib.hid (h2f.out.far (p:=⟨cn+1,0,none⟩) (show gb+1≠cn+1 by omega) fv)
   subst hfv
   go_upto_region 12 with(fail)
   clear z0 zf hVi h1f h2f hTf hTpf hAMf hBtf hOMf hOuf HB8 hB9 HFN
   generalize (w8.setCell ⟨cn+1,0,none⟩ (.func (.func 58) #[] #[.pointer (some ⟨bat,0,none⟩),.pointer (some ⟨cn,0,none⟩),.pointer (some ⟨gb,0,none⟩),.pointer (some ⟨tp,0,none⟩),.pointer (some ⟨cn+1,0,none⟩),.pointer (some ⟨ou,0,none⟩)]))=w9 at *
   have v0:=hYE.out.vi.cell' (i:=0) rfl
   unfold normFn at v0
   have g1:=hYE.out.gr.cell' (i:=1) rfl
   have D0:=DV.out ⟨bat,cn,gb,tp,cn+1,ou,am,om,tb,sb⟩ r w9 (fun _=>False) ⟨List.replicate n (-1),0,List.replicate n nd0⟩ s' v (madeCells zNd.cells (n*5)).toList (List.replicate n (.slice none 0 0)) (by rw [HN.out];exact hrn) ⟨by rw [HN.out];simp,by rw [HN.out];simp,by rw [HN.out];simp,fun k hk _=>by rw [List.getElem?_replicate,if_pos (by have:=HN.out;omega)],by rw [HN.out];show 0+negs (List.replicate n (-1))≤n;rw [negs_rep];omega⟩ hYE.out (by have h:=HV.out;rw [HN.out] at h;rw [HN.out];exact h)
   unfold VNC at D0
   have D:=Lib.hid D0
   clear D0 DV
   go_upto_region 13 with(go_at_call 58;((with_reducible refine D.out.mono ?_));rintro e w10 ⟨rfl,ncs',es',hE',hS',hP'⟩)
   clear v0 g1 D
   have hrs:gb+1<w9.heap.size:=hRB.out.lt
   have hR10:Hid (Arr w10 (gb+1) 26 [.slice none 0 0,.int .i64 0]):=(hP'.keep (gb+1) hrs (fun h=>by rcases h with h | h | h | h <;> (simp only at h;omega))).trans hRB.out
   have u0:=hE'.out.ou.cell' (i:=0) rfl
   have u1:=hE'.out.ou.cell' (i:=1) rfl
   rw [HN.out] at u0
   have r0:=hR10.out.cell' (i:=0) rfl
   have r1:=hR10.out.cell' (i:=1) rfl
   have f0:=hR10.out.frozen 0
   have f1:=hR10.out.frozen 1
   clear hYE hRB
   have hFin:Hid (∀w11,w11=w10.setCells (gb+1) 0 [.slice (some ⟨om,0,none⟩) n n,.int .i64 0]→Below w.heap.size w w11∧(∃ncs,Arr w11 om 30 ncs∧NodesRd w11 (fun _=>True) ncs s'.out)∧s'.out.length=n):=by
    rintro w11 rfl
    obtain⟨q1,q2,q3⟩:=same_setCells (gb+1) [.slice (some ⟨om,0,none⟩) n n,.int .i64 0] 0 w10
    have hk:∀b,b≠gb+1→(w10.setCells (gb+1) 0 [.slice (some ⟨om,0,none⟩) n n,.int .i64 0]).heap[b]? = w10.heap[b]?:=fun b hb=>heap_setCells (gb+1) _ _ w10 hb
    have hgw:w10.grownBy (w10.setCells (gb+1) 0 [.slice (some ⟨om,0,none⟩) n n,.int .i64 0]) (some (gb+1)):=⟨q1,q2,q3,by rw [size_setCells];exact Nat.le_refl _,fun j _ hj=>hk j (fun e=>hj (by rw [e]))⟩
    refine⟨hE'.out.be.grown hgw (by have:=hE'.out.be.size;exact this) (fun k e=>by have:=Option.some.inj e;have:=HGB.out;omega),?_,hS'.out.ol.trans HN.out⟩
    have hom:Arr (w10.setCells (gb+1) 0 [.slice (some ⟨om,0,none⟩) n n,.int .i64 0]) om 30 ncs':=hE'.out.om.grown hgw (some_ne (show om≠gb+1 by omega))
    have hrd:=hE'.out.rd.over (w':=w10.setCells (gb+1) 0 [.slice (some ⟨om,0,none⟩) n n,.int .i64 0]) (F':=fun _=>True) (fun b hb _ hc=>⟨hk b (fun e=>by
     obtain⟨C,fz,hc⟩:=hc
     subst e;exact absurd (cells_kind hR10.out hc) (by decide)),trivial⟩)
    exact⟨_,hom,hrd⟩
   have h6:=(hR10.out.store 0 (.slice (some ⟨om,0,none⟩) n n)).store 1 (.int .i64 0)
   have hF2:=hFin.out ((w10.setCell ⟨gb+1,0,none⟩ (.slice (some ⟨om,0,none⟩) n n)).setCell ⟨gb+1,1,none⟩ (.int .i64 0)) rfl
   have h6':=Lib.hid h6
   have hF2':=Lib.hid hF2
   clear h6 hF2 hFin
   go_wp2_with (fail)
   clear u0 u1 r0 r1 f0 f1
   have h6:Arr ((w10.setCell ⟨gb+1,0,none⟩ (.slice (some ⟨om,0,none⟩) n n)).setCell ⟨gb+1,1,none⟩ (.int .i64 0)) (gb+1) 26 [.slice (some ⟨om,0,none⟩) n n,.int .i64 0]:=h6'.out
   have hsz:(Tryz.prog.info? 26).map (·.size)=some 2:=by kernel_rfl
   generalize (w10.setCell ⟨gb+1,0,none⟩ (.slice (some ⟨om,0,none⟩) n n)).setCell ⟨gb+1,1,none⟩ (.int .i64 0)=w11 at *
   obtain⟨q1,q2,q3⟩:=hF2'.out
   exact bodyPost_ret (v:=.agg #[.slice (some ⟨om,0,none⟩) n n,.int .i64 0]) (results_cell_row Tryz.results27 _ _ _ _ #[.slice (some ⟨om,0,none⟩) n n,.int .i64 0] (0,0) _ rfl h6 Tryz.underlying26 rfl hsz) rfl ⟨om,rfl,q1,by have:=HGB.out;omega,q2,q3⟩
  ·have hi':(i:Int)<n:=by omega
   have hi0:(0:Int)≤i:=by omega
   have a0:=hLr.out.cell' (i:=i) (I64_getD (by simp;omega))
   have af:=hLr.out.frozen i
   have hL2:Hid (Arr (wr.setCell ⟨am,i,none⟩ (.int .i64 (-1))) am 3 (I64 (List.replicate (i+1) (-1) ++ List.replicate (n - (i+1)) 0))):=by rw [←rep_set n i (by omega)];exact hLr.out.store i _
   have hg2:=Lib.hid (grown_trans hgr.out (grown_set wr ⟨am,i,none⟩ (.int .i64 (-1))))
   clear hLr hgr hBr
   go_wp2_with (fail)
   go_roundw
   case rel=>exact⟨i+1,by omega,i64e (by omega),hL2,hg2⟩
   case measure=>simp [intOf];omega
end Go.Proofs.YtnnnagnjikdnnaaGreatDoor
namespace Go.Proofs.YtnnnagnjikdnnaaGreatDoor
open Go.RowKit
structure NormOK (nodes:List GNode):Prop where
 idx:Idx nodes
 nl:NL 65536 nodes
 len:nodes.length≤4096
 ent:∀k,k<nodes.length→(ndAt nodes k).kind=10→(ndAt nodes k).ord=false→EntOK nodes (ndAt nodes k)
 key:∀k,k<nodes.length→(ndAt nodes k).kind=10→(ndAt nodes k).keys.length=(ndAt nodes k).items.length
end Go.Proofs.YtnnnagnjikdnnaaGreatDoor
namespace Go.Proofs.YtnnnagnjikdnnaaGreatDoor
open Go.RowKit
def atG (a:List Int) (y:Int):Int:=a.getD y.toNat 0
end Go.Proofs.YtnnnagnjikdnnaaGreatDoor
namespace Go.Proofs.YtnnnagnjikdnnaaGreatDoor
open Go.RowKit
end Go.Proofs.YtnnnagnjikdnnaaGreatDoor
namespace Go.Proofs.YtnnnagnjikdnnaaGreatDoor
open Go.RowKit
end Go.Proofs.YtnnnagnjikdnnaaGreatDoor
namespace Go.Proofs.YtnnnagnjikdnnaaGreatDoor
open Go.RowKit
end Go.Proofs.YtnnnagnjikdnnaaGreatDoor
namespace Go.Proofs.YtnnnagnjikdnnaaGreatDoor
open Go.RowKit
def LenR (w:World) (kb k:Nat) (kn':List Int) (e:Ending) (w':World):Prop:=e=.returned (.int .i64 (atG kn' (k:Int)))∧w.grownBy w' (some kb)∧Hid (Arr w' kb 3 (I64 kn'))
end Go.Proofs.YtnnnagnjikdnnaaGreatDoor

namespace Go.Proofs.YtnnnagnjikdnnaaGreatDoor
open Go.RowKit
end Go.Proofs.YtnnnagnjikdnnaaGreatDoor
namespace Go.Proofs.YtnnnagnjikdnnaaGreatDoor
open Go.RowKit
def WFr (b sb:Nat) (w w':World):Prop:=w.heap.size≤w'.heap.size∧∀q C t fz,w.heap[q]? = some (.cells C t fz)→q≠b→q≠sb→t≠5→w'.heap[q]? = some (.cells C t fz)
theorem WFr.refl (b sb:Nat) (w:World):WFr b sb w w:=⟨Nat.le_refl _,fun _ _ _ _ h _ _ _=>h⟩
theorem WFr.trans {b sb:Nat} {u v w:World} (h:WFr b sb u v) (k:WFr b sb v w):WFr b sb u w:=⟨Nat.le_trans h.1 k.1,fun q C t fz hq h1 h2 h3=>k.2 q C t fz (h.2 q C t fz hq h1 h2 h3) h1 h2 h3⟩
theorem WFr.bld {b sb z:Nat} {w w':World} (h:Others b w w') (hb:Below z w w'):WFr b sb w w':=⟨hb.size,fun q C t fz hq h1 _ h3=>h q _ hq (fun e=>h1 (Option.some.inj e)) (fun c f e=>by
 injection e with _ e2 _
 exact h3 e2)⟩
theorem WFr.row {b sb:Nat} {w w':World} (h:w.grownBy w' (some sb)):WFr b sb w w':=⟨h.size,fun q C t fz hq _ h2 _=>(h.block q (Array.getElem?_eq_some_iff.1 hq).1 (fun e=>h2 (Option.some.inj e))).trans hq⟩
theorem WFr.arr {b sb q:Nat} {w w':World} {t:TypeId} {xs:List Value} (h:WFr b sb w w') (ha:Arr w q t xs) (h1:q≠b) (h2:q≠sb) (h3:t≠5):Arr w' q t xs:=h.2 q _ t _ ha h1 h2 h3
theorem strB8 {ys:List Nat} (h:By ys):Lib.strCells (mks ys)=B8 ys:=by
 unfold Lib.strCells mks B8
 rw [List.map_map]
 refine List.map_congr_left (fun c hc=>?_)
 have:=h c hc
 show Value.int .u8 (((UInt8.ofNat c).toNat:Nat):Int)=_
 have e:(UInt8.ofNat c).toNat=c:=by simp;omega
 rw [e]
theorem B8_app (a c:List Nat):B8 (a ++ c)=B8 a ++ B8 c:=by simp [B8]
theorem bldU_row {z b sb:Nat} {bs:List Value} {w w':World} {es:List Value} (h:BldU z b bs w) (hg:w.grownBy w' (some sb)) (hs:Arr w sb 28 es) (hne:sb≠b):BldU z b bs w':=by
 have hlt:=h.lt
 obtain⟨hB,v,hk,hown,hvn⟩:=h
 refine⟨hB,v,(hg.block b hlt (fun e=>hne (Option.some.inj e).symm)).trans hk,hown.kept hg (.inr fun e=>?_),hvn⟩
 obtain⟨c,fz,hc⟩:=Lib.ownsRowF_kind hown sb e
 exact absurd (cells_kind hs hc) (by decide)
def MemW (n:Nat) (m:List Bool) (es:List Value):Prop:=es.length=n∧∀j,j<n→m.getD j false=false→es[j]? = some (.slice none 0 0)
def WrR (w:World) (z b sb n:Nat) (s':List Bool×List Nat) (e:Ending) (w':World):Prop:=e=.returned (.tuple #[])∧Below z w w'∧WFr b sb w w'∧Hid (BldF z b (B8 s'.2) w')∧∃es',Hid (Arr w' sb 28 es')∧Hid (MemW n s'.1 es')
end Go.Proofs.YtnnnagnjikdnnaaGreatDoor
namespace Go.Proofs.YtnnnagnjikdnnaaGreatDoor
open Go.RowKit
set_option maxRecDepth 20000 in
set_option maxHeartbeats 8000000 in
theorem cacyclic_any {B g o c:Nat} {nodes:List GNode} {r:Int} (hO:ChkOK nodes r) (hz:chkV nodes r=0) (hd:(depthR nodes r).2=true) (w:World) (hw:LibE w) (hG:GRd w B g o nodes) :
  Calls Tryz.prog 62 #[.agg #[.slice (some ⟨g,o,none⟩) nodes.length c,.int .i64 r]] w fun e w'=>e=.returned (.int .i64 0)∧Below w.heap.size w w':=by
 obtain⟨n,hn⟩:∃n,nodes.length=n:=⟨_,rfl⟩
 have HG:=Lib.hid hG
 have HW:=Lib.hid hw
 have hBw:=hG.2.1
 have D1:=Lib.hid (fun(w':World) (h:LibE w') (h':GRd w' B g o nodes)=>gcheck_any (c:=c) hO w' h h')
 have D2:=Lib.hid (fun(w':World) (h:LibE w') (h':GRd w' B g o nodes)=>gdepth_any (c:=c) hO w' h h')
 rw [hz] at D1
 rw [hd] at D2
 rw [hn] at D1 D2 ⊢
 clear hO hz hd hG hw hn
 have h1:Hid (Arr (w.alloc (.cells #[.slice (some ⟨g,o,none⟩) n c,.int .i64 r] 26)) w.heap.size 26 [.slice (some ⟨g,o,none⟩) n c,.int .i64 r]):=Arr.new w _ _
 have hb1:Below w.heap.size w (w.alloc (.cells #[.slice (some ⟨g,o,none⟩) n c,.int .i64 r] 26)):=(Below.refl _ _).alloc (Nat.le_refl _) _
 go_enter Tryz.func62,Tryz.ntmps62
 go_upto_region 1 with(fail)
 obtain⟨gb,hgb⟩:∃x,w.heap.size=x:=⟨_,rfl⟩
 have HGB:=Lib.hid hgb
 have HB1:=Lib.hid hb1
 generalize (w.alloc (.cells #[.slice (some ⟨g,o,none⟩) n c,.int .i64 r] 26))=W at *
 rw [hgb] at h1 HB1 hBw ⊢
 clear hgb hb1
 have hG1:=Lib.hid (HG.out.below HB1.out hBw)
 have hW1:=Lib.hid (HW.out.keep (by rw [HGB.out];exact HB1.out))
 have hgl:=h1.out.lt
 have x0:=h1.out.cell' (i:=0) rfl
 have x1:=h1.out.cell' (i:=1) rfl
 go_upto_region 3 with(go_at_call 26;((with_reducible refine(D1.out _ hW1.out hG1.out).mono ?_));rintro e w2 ⟨rfl,hb2⟩)
 have h1b:=Lib.hid (h1.out.keep hb2)
 have HB2:=Lib.hid (HB1.out.trans (hb2.mono (by omega)))
 have hG2:=Lib.hid (hG1.out.below hb2 (by omega))
 have hW2:=Lib.hid (hW1.out.keep hb2)
 have hs2:=hb2.size
 clear x0 x1 h1 HB1 hb2 hG1 hW1 D1
 have x0:=h1b.out.cell' (i:=0) rfl
 have x1:=h1b.out.cell' (i:=1) rfl
 go_wp2_with (go_at_call 96;((with_reducible refine(D2.out _ hW2.out hG2.out).mono ?_));rintro e w3 ⟨rfl,hb3⟩)
 go_ret
 exact⟨rfl,by rw [HGB.out];exact HB2.out.trans (hb3.mono (by omega))⟩
end Go.Proofs.YtnnnagnjikdnnaaGreatDoor
namespace Go.Proofs.YtnnnagnjikdnnaaGreatDoor
open Go.RowKit
def cqE (c:Nat):List Nat:=if c=34∨c=92 then [92,c] else [c]
def cqL (t:List Nat):List Nat:=t.flatMap cqE
def cquo (t:List Nat):List Nat:=34 :: (cqL t ++ [34])
theorem cqL_take {t:List Nat} {i c:Nat} (h:t[i]? = some c):cqL (t.take (i+1))=cqL (t.take i) ++ cqE c:=by
 unfold cqL
 rw [List.take_add_one,h,List.flatMap_append]
 simp
theorem cqE_len (c:Nat):(cqE c).length≤2:=by unfold cqE;split <;> simp
theorem cqL_len (t:List Nat):(cqL t).length≤2*t.length:=by
 induction t with
 | nil=>simp [cqL]
 | cons c t ih=>
  have h:=cqE_len c
  have e:cqL (c :: t)=cqE c ++ cqL t:=by simp [cqL]
  rw [e,List.length_append,List.length_cons]
  omega
theorem cqE_by {c:Nat} (h:c<256):By (cqE c):=by
 unfold cqE
 split
 ·exact By.cons (by decide) (By.cons h By.nil)
 ·exact By.cons h By.nil
theorem cqL_by {t:List Nat} (h:By t):By (cqL t):=by
 intro x hx
 obtain⟨c,hc,hx⟩:=List.mem_flatMap.1 hx
 exact cqE_by (h c hc) x hx
theorem cquo_by {t:List Nat} (h:By t):By (cquo t):=By.cons (by decide) ((cqL_by h).append (By.cons (by decide) By.nil))
theorem cquo_len (t:List Nat):(cquo t).length≤2*t.length+2:=by
 have:=cqL_len t
 unfold cquo
 rw [List.length_cons,List.length_append,List.length_singleton]
 omega
def leafT (nd:GNode):List Nat:=if nd.kind=0 then [110,117,108,108] else if nd.kind=5 then cquo nd.text else nd.text
theorem leafT_by {nd:GNode} (h:By nd.text):By (leafT nd):=by
 unfold leafT
 split
 ·exact By.cons (by decide) (By.cons (by decide) (By.cons (by decide) (By.cons (by decide) By.nil)))
 ·split
  ·exact cquo_by h
  ·exact h
def addLT (lv:Int→List Int→Option (List Int)) (N:Nat) (e y:Int) (s:Int×List Int):Option (Int×List Int):=
 match lv y s.2 with
 | none=>none
 | some kn'=>if kn'.length=N∧0≤atG kn' y∧s.1+(e+atG kn' y)≤65537 then some (s.1+(e+atG kn' y),kn') else none
def entT (lv:Int→List Int→Option (List Int)) (N:Nat) (nd:GNode) (i:Int) (s:Int×List Int):Option (Int×List Int):=
 match (if nd.kind=10 then addLT lv N 1 (nd.keys.getD i.toNat 0) s else some s) with
 | none=>none
 | some s1=>addLT lv N 0 (nd.items.getD i.toNat 0) s1
def lenT (nodes:List GNode):Nat→Int→List Int→Option (List Int)
 | 0,_,_=>none
 | f+1,x,kn=>
  if kn.length=nodes.length∧0≤x∧x<(nodes.length:Int) then
   if 0≤atG kn x then some kn
   else if (0≤(ndAt nodes x.toNat).kind∧(ndAt nodes x.toNat).kind≤5)∧(ndAt nodes x.toNat).items = []∧(ndAt nodes x.toNat).text.length≤10000 then some (kn.set x.toNat ((leafT (ndAt nodes x.toNat)).length:Int))
   else if ((ndAt nodes x.toNat).kind=9∨(ndAt nodes x.toNat).kind=10∧(ndAt nodes x.toNat).keys.length=(ndAt nodes x.toNat).items.length)∧0<(ndAt nodes x.toNat).items.length then
    match runG (entT (lenT nodes f) nodes.length (ndAt nodes x.toNat)) (rngI (ndAt nodes x.toNat).items.length) (1+((ndAt nodes x.toNat).items.length:Int),kn) with
    | none=>none
    | some (sum,kn')=>some (kn'.set x.toNat sum)
   else none
  else none
def aheadT (wv:Int→List Bool×List Nat→Option (List Bool×List Nat)) (nd:GNode) (k:Int) (st:Nat×List Bool×List Nat):Option (List Bool×List Nat):=
 let o:=if st.1=0 then st.2.2 else st.2.2 ++ [44]
 if nd.kind=10 then match wv (nd.keys.getD k.toNat 0) (st.2.1,o) with
  | none=>none
  | some r=>if r.2.length≤60000 then some (r.1,r.2 ++ [61]) else none
 else some (st.2.1,o)
def stepWT (wv:Int→List Bool×List Nat→Option (List Bool×List Nat)) (nd:GNode) (k:Int) (st:Nat×List Bool×List Nat):Option (Nat×List Bool×List Nat):=
 if st.2.2.length≤60000 then match aheadT wv nd k st with
  | none=>none
  | some r=>match wv (nd.items.getD k.toNat 0) r with
   | none=>none
   | some r2=>some (st.1+1,r2.1,r2.2)
 else none
def endsT (nd:GNode):Nat×Nat:=if nd.kind=10 then (123,125) else (91,93)
def writeT (nodes:List GNode):Nat→Int→List Bool×List Nat→Option (List Bool×List Nat)
 | 0,_,_=>none
 | f+1,x,s=>
  if s.1.length=nodes.length∧0≤x∧x<(nodes.length:Int)∧s.2.length≤60000 then
   if (0≤(ndAt nodes x.toNat).kind∧(ndAt nodes x.toNat).kind≤5)∧(ndAt nodes x.toNat).text.length≤1000 then some (s.1,s.2 ++ leafT (ndAt nodes x.toNat))
   else if ((ndAt nodes x.toNat).kind=9∨(ndAt nodes x.toNat).kind=10∧(ndAt nodes x.toNat).ord=false∧(ndAt nodes x.toNat).keys.length=(ndAt nodes x.toNat).items.length)∧s.1.getD x.toNat false=false then
    match runG (stepWT (writeT nodes f) (ndAt nodes x.toNat)) (entV nodes x.toNat) (0,s.1.set x.toNat true,s.2 ++ [(endsT (ndAt nodes x.toNat)).1]) with
    | none=>none
    | some st=>if st.2.2.length≤60000 then some (st.2.1,st.2.2 ++ [(endsT (ndAt nodes x.toNat)).2]) else none
   else none
  else none
end Go.Proofs.YtnnnagnjikdnnaaGreatDoor
namespace Go.Proofs.YtnnnagnjikdnnaaGreatDoor
open Go.RowKit
theorem cq_step {t:List Nat} {i c:Nat} (h:t[i]? = some c):B8 (34 :: cqL (t.take (i+1)))=B8 (34 :: cqL (t.take i)) ++ B8 (cqE c):=by
 rw [cqL_take h,←B8_append]
 rfl
set_option maxRecDepth 20000 in
set_option maxHeartbeats 8000000 in
theorem cquoted_any {t:List Nat} (ht:By t) (hl:t.length≤10000) (w:World) :
  Calls Tryz.prog 122 #[.string (mks t)] w fun e w'=>e=.returned (.string (mks (cquo t)))∧Below w.heap.size w w':=by
 obtain⟨n,hn⟩:∃n,t.length=n:=⟨_,rfl⟩
 have hsz:(mks t).size=n:=by rw [size_mks];exact hn
 have HT:=Lib.hid ht
 have HN:=Lib.hid hn
 have hb0:BldF w.heap.size w.heap.size [] (w.alloc (.cells #[.pointer none,.slice none 0 0] 49)):=Lib.IsBuilderF.of (Lib.fresh_isBuilder 49 5 w)
 have HB0:Hid (BldF w.heap.size w.heap.size [] (w.alloc (.cells #[.pointer none,.slice none 0 0] 49))):=hb0
 have HBl:Hid (Below w.heap.size w (w.alloc (.cells #[.pointer none,.slice none 0 0] 49))):=(Below.refl _ _).alloc (Nat.le_refl _) _
 rw [hn] at hl
 clear ht hn hb0
 go_enter Tryz.func122,Tryz.ntmps122
 go_upto_region 2 with(fail)
 generalize (w.alloc (.cells #[.pointer none,.slice none 0 0] 49))=W1 at *
 obtain⟨z,hz⟩:∃z,w.heap.size=z:=⟨_,rfl⟩
 rw [hz] at HB0 HBl ⊢
 have HZ:=Lib.hid hz
 have hz1:z≤W1.heap.size:=by rw [←hz];exact Nat.le_trans (Nat.le_of_eq hz) (by have:=HBl.out.size;omega)
 clear hz
 go_upto_region 3 with(go_at_call 16;((with_reducible refine(kb_byte z z [] 34 W1 HB0.out (by decide) hz1).mono ?_));rintro en w2 ⟨rfl,hu2,hb2,_⟩;have HU2:=Lib.hid hu2;have HB2:=Lib.hid hb2;clear hu2 hb2)
 have HBW2:=Lib.hid (HBl.out.trans HB2.out)
 have hbf2:Hid (BldF z z (B8 (34 :: cqL (t.take 0))) w2):=.inr HU2.out
 have Hbf2:=Lib.hid hbf2
 clear HU2 HB0 HB2 hz1 hbf2
 go_wp2_with (fail)
 have HB0w:Hid (z≤w2.heap.size):=by have:=HBW2.out.size;have:=HZ.out;show _≤_;omega
 go_loopw [8] (fun iv wr=>∃i:Nat,i≤n∧iv=.int .i64 (i:Int)∧Hid (BldF z z (B8 (34 :: cqL (t.take i))) wr)∧Hid (Below z w wr)) (fun iv _=>n - (intOf iv).toNat)
 case atStart=>exact⟨0,Nat.zero_le _,rfl,Hbf2.out,HBW2.out⟩
 case round=>
  obtain⟨i,hi,rfl,hBd,hB⟩:=hrel
  have hbz:z≤wr.heap.size:=Nat.le_trans (Nat.le_of_eq HZ.out.symm) hB.out.size
  have i0:(0:Int)≤i:=by omega
  have hlq:(B8 (34 :: cqL (t.take i))).length≤70000:=by
   have h1:=cqL_len (t.take i)
   rw [List.length_take] at h1
   unfold B8
   rw [List.length_map,List.length_cons]
   omega
  have hlen:(B8 (34 :: cqL (t.take i))).length+1≤140737488355328:=by omega
  have HLE:=Lib.hid hlen
  by_cases hin:i=n
  ·have i1:¬(i:Int)<n:=by omega
   have hfin:B8 (34 :: cqL (t.take i)) ++ [.int .u8 34]=Lib.byteCells ((cquo t).map UInt8.ofNat):=by
    rw [show Lib.byteCells ((cquo t).map UInt8.ofNat)=B8 (cquo t) from strB8 (cquo_by HT.out),hin,←HN.out,List.take_length]
    unfold cquo
    rw [←List.cons_append,B8_append]
    rfl
   have HF:=Lib.hid hfin
   clear hfin hlen hlq hin hi
   go_wp2_with (first | (go_at_call 16;((with_reducible refine(kb_byte z z (B8 (34 :: cqL (t.take i))) 34 wr hBd.out HLE.out hbz).mono ?_));rintro en w3 ⟨rfl,hu3,hb3,_⟩;have HU3:Hid (BldF z z (Lib.byteCells ((cquo t).map UInt8.ofNat)) w3):=(by rw [←HF.out];exact .inr hu3);have DS:=Lib.hid (Tryz.Builder_String_any_f z z ((cquo t).map UInt8.ofNat) w3 HU3.out (Nat.le_trans hbz hb3.size));have HB3:=Lib.hid hb3;clear hu3 hb3;rw [show(⟨((cquo t).map UInt8.ofNat).toArray⟩:ByteArray)=mks (cquo t) from rfl] at DS) | (go_at_call 20;((with_reducible refine DS.out.mono ?_));rintro en w8 ⟨rfl,_,hb8⟩))
   go_ret
   exact⟨rfl,by rw [HZ.out];exact(hB.out.trans HB3.out).trans hb8⟩
  ·have i1:(i:Int)<n:=by omega
   obtain⟨c,hc⟩:∃c,t[i]? = some c:=⟨_,List.getElem?_eq_getElem (by have:=HN.out;omega)⟩
   have hcb:=HT.out.get hc
   have q0:i<(mks t).size:=by rw [hsz];omega
   have hg:=get_mks hc hcb q0
   have htn:=Lib.hid (cq_step hc)
   have HLQ:=Lib.hid hlq
   clear hlen hlq hc
   by_cases h34:c=34∨c=92
   ·have HE:=Lib.hid (show cqE c = [92,c] by unfold cqE;rw [if_pos h34])
    have hm:(B8 (34 :: cqL (t.take i)) ++ [Value.int .u8 92]).length+1≤140737488355328:=by rw [List.length_append,List.length_singleton];have:=HLQ.out;omega
    have HM:=Lib.hid hm
    clear hm
    rcases h34 with rfl | rfl
    ·go_upto_region 8 with(first | (go_at_call 16;((with_reducible refine(kb_byte z z (B8 (34 :: cqL (t.take i))) 92 wr hBd.out HLE.out hbz).mono ?_));rintro en w3 ⟨rfl,hu3,hb3,_⟩))
     have HU3:Hid (BldF z z (B8 (34 :: cqL (t.take i)) ++ [.int .u8 92]) w3):=.inr hu3
     have HB3:=Lib.hid hb3
     have hz3:=Nat.le_trans hbz hb3.size
     clear hu3 hb3
     go_wp2_with (go_at_call 16;((with_reducible refine(kb_byte z z (B8 (34 :: cqL (t.take i)) ++ [.int .u8 92]) 34 w3 HU3.out HM.out hz3).mono ?_));rintro en w4 ⟨rfl,hu4,hb4,_⟩)
     go_roundw
     case rel=>exact⟨i+1,by omega,i64e (by omega),by rw [htn.out,HE.out];rw [List.append_assoc] at hu4;exact .inr hu4,(hB.out.trans HB3.out).trans hb4⟩
     case measure=>simp [intOf];omega
    ·go_upto_region 8 with(first | (go_at_call 16;((with_reducible refine(kb_byte z z (B8 (34 :: cqL (t.take i))) 92 wr hBd.out HLE.out hbz).mono ?_));rintro en w3 ⟨rfl,hu3,hb3,_⟩))
     have HU3:Hid (BldF z z (B8 (34 :: cqL (t.take i)) ++ [.int .u8 92]) w3):=.inr hu3
     have HB3:=Lib.hid hb3
     have hz3:=Nat.le_trans hbz hb3.size
     clear hu3 hb3
     go_wp2_with (go_at_call 16;((with_reducible refine(kb_byte z z (B8 (34 :: cqL (t.take i)) ++ [.int .u8 92]) 92 w3 HU3.out HM.out hz3).mono ?_));rintro en w4 ⟨rfl,hu4,hb4,_⟩)
     go_roundw
     case rel=>exact⟨i+1,by omega,i64e (by omega),by rw [htn.out,HE.out];rw [List.append_assoc] at hu4;exact .inr hu4,(hB.out.trans HB3.out).trans hb4⟩
     case measure=>simp [intOf];omega
   ·have m34:((c:Int) == 34)=false:=by simp;omega
    have m92:((c:Int) == 92)=false:=by simp;omega
    have HE:=Lib.hid (show cqE c = [c] by unfold cqE;rw [if_neg h34])
    go_wp2_with (go_at_call 16;((with_reducible refine(kb_byte z z (B8 (34 :: cqL (t.take i))) (c:Int) wr hBd.out HLE.out hbz).mono ?_));rintro en w3 ⟨rfl,hu3,hb3,_⟩)
    go_roundw
    case rel=>exact⟨i+1,by omega,i64e (by omega),by rw [htn.out,HE.out];exact .inr hu3,hB.out.trans hb3⟩
    case measure=>simp [intOf];omega
end Go.Proofs.YtnnnagnjikdnnaaGreatDoor
