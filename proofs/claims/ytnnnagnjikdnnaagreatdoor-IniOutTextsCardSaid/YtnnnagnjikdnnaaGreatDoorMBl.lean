/- The walk of the closure 'visit' in share's order. -/
import Derived.Test.YtnnnagnjikdnnaaGreatDoorMBk
import Derived.Test.YtnnnagnjikdnnaaGreatDoorMAy
import Derived.Test.YtnnnagnjikdnnaaGreatDoorMAp
import Derived.Test.YtnnnagnjikdnnaaGreatDoorMAl
set_option linter.unusedVariables false
set_option linter.unusedSimpArgs false
set_option linter.defProp false
set_option linter.constructorNameAsVariable false
namespace Go.Proofs.YtnnnagnjikdnnaaGreatDoor
open Go.RowKit
structure VS (n:Nat) (M:List Bool) (L:List Int) (es:List Value):Prop where
 ml:M.length=n
 el:es.length=n
 ct:L.length+cfB M≤n
 li:InL n L
def VOC (w0 w:World) (B g o c:Nat) (nodes:List GNode) (root:Int) (F:Nat→Prop) (e:OB) (q:Nat) (en:Ending) (w':World):Prop:=
 en=.returned (.tuple #[])∧∃F' vs' M' L' es',Hid (OE w0 w' B g o c nodes root F' e vs' M' L' es')∧Hid (VS nodes.length M' L' es')∧cfB M'≤q∧PStep w w' F F'
def VisO (w0:World) (B g o c:Nat) (nodes:List GNode) (root:Int) (e:OB) (f:Nat):Prop:=∀(k:Nat) (w:World) (F:Nat→Prop) (vs:Value) (M:List Bool) (L:List Int) (es:List Value),cfB M≤f→k<nodes.length→M.getD k false=false→VS nodes.length M L es→OE w0 w B g o c nodes root F e vs M L es →
 Calls Tryz.prog 124 #[.int .i64 (k:Int),.pointer (some ⟨e.mt,0,none⟩),.pointer (some ⟨e.ou,0,none⟩),.pointer (some ⟨e.gr,0,none⟩),.pointer (some ⟨e.en,0,none⟩),.pointer (some ⟨e.vi,0,none⟩)] w (VOC w0 w B g o c nodes root F e (cfB M - 1))
set_option maxRecDepth 20000 in
set_option maxHeartbeats 16000000 in
theorem visitO_any {w0:World} {B g o c:Nat} {nodes:List GNode} {root:Int} {e:OB} (hw0:LibE w0) (hB0:B=w0.heap.size) (hI:Idx nodes) (hL:NL 65536 nodes) (hN:nodes.length≤65536) (hT:∀k,k<nodes.length→(ndAt nodes k).kind=10→SortN nodes (ndAt nodes k)) (f:Nat):VisO w0 B g o c nodes root e f:=by
 have HB0:=Lib.hid hB0
 clear hB0
 induction f with
 | zero=>
  intro k w F vs M L es hf hk hm hV hE
  have:=cfB_set hm (by rw [hV.ml];exact hk)
  omega
 | succ f ih=>
  intro k w F vs M L es hf hk hm hV hE
  have hcf:=cfB_set hm (by rw [hV.ml];exact hk)
  have hk0:(0:Int)≤k:=by omega
  have hk1:(k:Int)<nodes.length:=by omega
  have x0:=hE.mt.cell' (i:=0) rfl
  have m0:=hE.mm.cell' (Bs_get (m:=M) (k:=k) (by rw [hV.ml];exact hk))
  rw [hm] at m0
  have f0:=hE.mm.frozen k
  have hg1:=grown_set w ⟨e.mm,k,none⟩ (.bool true)
  have hE1:Hid (OE w0 (w.setCell ⟨e.mm,k,none⟩ (.bool true)) B g o c nodes root F e vs (M.set k true) L es):=hE.set_mm _ hg1 (by have:=hE.mm.store k (.bool true);rw [Bs_set] at this;exact this)
  have hP1:=Lib.hid (pstep_grown hg1 hE.fw.1)
  have HV:=Lib.hid hV
  have hLl:L.length≤65536:=by have:=hV.ct;omega
  have HCF:=Lib.hid hcf
  clear hg1 hE hV hm hcf
  go_enter Tryz.func124,Tryz.ntmps124
  go_upto_region 1 with(fail)
  clear x0 m0 f0
  generalize w.setCell ⟨e.mm,k,none⟩ (.bool true)=w1 at *
  obtain⟨Ao,co,hvs,_,_⟩:=own_slice hE1.out.ro
  subst hvs
  have a0:=hE1.out.ou.cell' (i:=0) rfl
  have hBw:B≤w1.heap.size:=hE1.out.gd.2.1
  have hr1:Hid ((w1.alloc (.cells #[.int .i64 (k:Int)] 3)).ownsRow B 3 1 (.slice Ao L.length co) L.length (I64 L)):=hE1.out.ro.alloc _
  have hb1:Hid (Below w1.heap.size w1 (w1.alloc (.cells #[.int .i64 (k:Int)] 3))):=(Below.refl _ _).alloc (Nat.le_refl _) _
  go_upto_region 2 with(at_builtin;go_loud (refine wpList_apS rfl (.tmp 12) (.tmp 14) 28 rfl B 3 _ 1 _ Tryz.underlying28 infoInt rfl (by decide) _ L.length (I64 L) rfl hr1.out ⟨w1.heap.size,0,none⟩ _ [.int .i64 (k:Int)] rfl rfl (cells_new _ _ _) rfl (by unfold maxLen;omega) (by omega) (by simp;omega) ?_;intro v3 w3 hown3 hgr3 hat3;obtain⟨A3,c3,hv3,hc3,hm3⟩:=own_slice hown3;subst hv3;have hS3:=arr_row hE1.out.ou hb1.out hgr3 (row_ne hE1.out.ro hE1.out.ou (by decide));have p3:=hS3.cell' (i:=0) rfl;have q3:=hS3.frozen 0))
  obtain⟨F2,hE2',hP2',hFF⟩:=hE1.out.push (k:Int) hb1.out hgr3 hown3 hat3
  have hE2:Hid (OE w0 (w3.setCell ⟨e.ou,0,none⟩ (.slice A3 (L.length+1) c3)) B g o c nodes root F2 e (.slice A3 (L.length+1) c3) (M.set k true) (L ++ [(k:Int)]) es):=hE2'
  have hP2:=Lib.hid (hP1.out.trans hP2')
  have hV2:Hid (VS nodes.length (M.set k true) (L ++ [(k:Int)]) es):=⟨by rw [List.length_set];exact HV.out.ml,HV.out.el,by rw [List.length_append,List.length_singleton];have:=HV.out.ct;have:=HCF.out;omega,fun x hx=>by
   rcases List.mem_append.1 hx with h | h
   ·exact HV.out.li x h
   ·rw [List.mem_singleton.1 h];exact⟨hk0,hk1⟩⟩
  clear hE2' hP2' hFF hown3 hgr3 hat3 hS3 p3 q3 hr1 hb1 hBw a0 hE1 hP1 HV
  generalize w3.setCell ⟨e.ou,0,none⟩ (.slice A3 (L.length+1) c3)=w2 at *
  generalize (Value.slice A3 (L.length+1) c3)=vs2 at *
  generalize L ++ [(k:Int)]=L2 at *
  obtain⟨u0,hu0⟩:∃u,es[k]? = some u:=⟨_,List.getElem?_eq_getElem (by rw [hV2.out.el];exact hk)⟩
  have b0:w2.drew.cell? ⟨e.en,0,none⟩=some (.slice (some ⟨e.em,0,none⟩) nodes.length nodes.length):=hE2.out.en.cell' (i:=0) rfl
  have b1:w2.drew.cell? ⟨e.gr,0,none⟩=some (.slice (some ⟨g,o,none⟩) nodes.length c):=hE2.out.gr.cell' (i:=0) rfl
  have b2:w2.drew.cell? ⟨e.gr,1,none⟩=some (.int .i64 root):=hE2.out.gr.cell' (i:=1) rfl
  have hw2:LibE w2.drew:=by
   have h:=hE2.out.be.drew
   rw [HB0.out] at h
   exact hw0.keep h
  have D:=Lib.hid (sorted_any (c:=c) (root:=root) hL k hk (hT k hk) w2.drew hw2 (hE2.out.gd.below (Below.refl _ _).drew hE2.out.gd.2.1))
  have n1:e.em≠e.en:=(hE2.out.neF hE2.out.fw.2.1).2.1.symm
  have n2:e.em≠e.gr:=(hE2.out.neF hE2.out.fw.2.1).2.2.1.symm
  clear hw2
  go_region_held3 (fun w'=>w'.cell? ⟨e.en,0,none⟩=some (.slice (some ⟨e.em,0,none⟩) nodes.length nodes.length)∧w'.cell? ⟨e.gr,0,none⟩=some (.slice (some ⟨g,o,none⟩) nodes.length c)∧w'.cell? ⟨e.gr,1,none⟩=some (.int .i64 root)) (first | exact⟨by assumption,by assumption,by assumption⟩ | exact⟨(World.cell?_setCell_far _ _ _ _ n1).trans (by assumption),(World.cell?_setCell_far _ _ _ _ n2).trans (by assumption),(World.cell?_setCell_far _ _ _ _ n2).trans (by assumption)⟩ | go_keep)
   ((go_at_call 66;((with_reducible refine D.out.mono ?_));rintro en w4 ⟨lb,xs,rfl,hlb,hlb2,hb4,hxl,hxi,hrd⟩;have d0:=(hb4.cell (block_lt_of_cell b0)).trans b0;have d1:=(hb4.cell (block_lt_of_cell b1)).trans b1;have d2:=(hb4.cell (block_lt_of_cell b2)).trans b2;have hE4:Hid (OE w0 w4 B g o c nodes root F2 e vs2 (M.set k true) L2 es):=OE.kept (w:=w2) hE2.out ((Below.refl w2.heap.size w2).drew.trans hb4);have e0:=hE4.out.em.cell' hu0;have f0:=hE4.out.em.frozen k))
  obtain⟨m,hm⟩:∃m,(ndAt nodes k).items.length=m:=⟨_,rfl⟩
  rw [hm] at hxl hxi ⊢
  have HMM:=Lib.hid hm
  have hml:m≤65536:=by have:=(hL k hk).2;omega
  have hge:=grown_set w4 ⟨e.em,k,none⟩ (.slice (some ⟨lb,0,none⟩) m m)
  have hE5:Hid (OE w0 (w4.setCell ⟨e.em,k,none⟩ (.slice (some ⟨lb,0,none⟩) m m)) B g o c nodes root F2 e vs2 (M.set k true) L2 (es.set k (.slice (some ⟨lb,0,none⟩) m m))):=hE4.out.set_em _ hge (hE4.out.em.store k _)
  have hlF:¬F2 lb:=fun hF=>by have h1:=hE2.out.hi lb hF;have h2:w2.heap.size≤lb:=hlb;omega
  have hP5:=Lib.hid ((hP2.out.trans (PStep.of_below ((Below.refl w2.heap.size w2).drew.trans hb4))).trans (pstep_grown hge hE4.out.fw.2.1))
  have hne:e.em≠lb:=fun h=>hlF (h▸hE4.out.fw.2.1)
  have hR5:Hid (Rd (w4.setCell ⟨e.em,k,none⟩ (.slice (some ⟨lb,0,none⟩) m m)) (some ⟨lb,0,none⟩) (I64 xs)):=hrd.out.setCell (p:=⟨e.em,k,none⟩) _ (fun ad e2=>by have:=Option.some.inj e2;subst this;exact fun h=>hne h.symm)
  have hV5:Hid (VS nodes.length (M.set k true) L2 (es.set k (.slice (some ⟨lb,0,none⟩) m m))):=⟨hV2.out.ml,by rw [List.length_set];exact hV2.out.el,hV2.out.ct,hV2.out.li⟩
  have hg5:Hid ((es.set k (.slice (some ⟨lb,0,none⟩) m m))[k]? = some (.slice (some ⟨lb,0,none⟩) m m)):=by
   show _=_
   rw [List.getElem?_set_self (by rw [hV2.out.el];exact hk)]
  have hl5:lb<(w4.setCell ⟨e.em,k,none⟩ (.slice (some ⟨lb,0,none⟩) m m)).heap.size:=by simp [World.setCell];exact hlb2
  clear d0 d1 d2 e0 f0 b0 b1 b2 D n1 n2 hE4 hE2 hV2 hP2 hge hrd hb4 hu0 hm hlb hlb2 hne
  generalize (w4.setCell ⟨e.em,k,none⟩ (.slice (some ⟨lb,0,none⟩) m m))=w5 at *
  generalize es.set k (.slice (some ⟨lb,0,none⟩) m m)=es5 at *
  have a0:=hE5.out.en.cell' (i:=0) rfl
  have a1:=hE5.out.em.cell' hg5.out
  go_upto_region 4 with(fail)
  clear a0 a1 hg5
  have hc0:cfB (M.set k true)≤f:=by have:=HCF.out;omega
  have hc1:cfB (M.set k true)≤cfB M - 1:=by have:=HCF.out;omega
  obtain⟨q,hq⟩:∃q,cfB M - 1=q:=⟨_,rfl⟩
  rw [hq] at hc1 ⊢
  generalize M.set k true=M0 at *
  clear hq HCF hf
  go_loopw [27] (fun v wr=>∃(i:Nat) (F1:Nat→Prop) (vs1:Value) (M1:List Bool) (L1:List Int) (es1:List Value),i≤m∧v=.int .i64 (i:Int)∧Hid (OE w0 wr B g o c nodes root F1 e vs1 M1 L1 es1)∧Hid (VS nodes.length M1 L1 es1)∧cfB M1≤f∧cfB M1≤q∧PStep w5 wr F2 F1) (fun v _=>m - (intOf v).toNat)
  case atStart=>exact⟨0,F2,vs2,M0,L2,es5,Nat.zero_le _,rfl,hE5,hV5,hc0,hc1,PStep.of_below (Below.refl _ _)⟩
  case round=>
   obtain⟨i,F1,vs1,M1,L1,es1,hi,rfl,hE1,hV1,hf1,hq1,hPr⟩:=hrel
   by_cases him:i=m
   ·have hi':¬(i:Int)<m:=by omega
    go_wp2_with (fail)
    go_end0
    exact⟨rfl,F1,vs1,M1,L1,es1,hE1,hV1,hq1,hP5.out.trans hPr⟩
   ·have hi':(i:Int)<m:=by omega
    obtain⟨a,hxa,ham⟩:=InR_get hxi (k:=i) (by omega)
    obtain⟨ad,had,hca⟩:=(hPr.rd hR5.out (fun ad e2=>by have:=Option.some.inj e2;subst this;exact hlF)).at_ (I64_get hxa)
    obtain rfl:=Option.some.inj had
    rw [Addr.add_mid,Nat.zero_add] at hca
    obtain⟨K,ck,I,ci,_,_,_,_,c4,_,hIt,hIb⟩:=hE1.out.gd.of_at hk
    obtain⟨y,hy⟩:∃y,(ndAt nodes k).items[a]? = some y:=⟨_,List.getElem?_eq_getElem (by have:=HMM.out;omega)⟩
    obtain⟨ai,rfl,hcy⟩:=hIt.at_ (I64_get hy)
    have hyr:=hI k hk y (by unfold refs;exact List.mem_append.2 (.inr (List.mem_of_getElem? hy)))
    obtain⟨ky,rfl⟩:∃ky:Nat,y=(ky:Int):=⟨y.toNat,by omega⟩
    have hky:ky<nodes.length:=by omega
    rw [HMM.out] at c4
    have a0:(0:Int)≤a:=by omega
    have a1:(a:Int)<m:=by omega
    have y0:(0:Int)≤ky:=by omega
    have y1:(ky:Int)<nodes.length:=by omega
    have g0:=hE1.out.gr.cell' (i:=0) rfl
    have t0:=hE1.out.mt.cell' (i:=0) rfl
    have v0:=hE1.out.vi.cell' (i:=0) rfl
    unfold orderFn at v0
    have hb:=hE1.out.mm.cell' (Bs_get (m:=M1) (k:=ky) (by rw [hV1.out.ml];exact hky))
    have DV:=Lib.hid (fun(hmf:M1.getD ky false=false) (w':World) (h':Below wr.heap.size wr w')=>ih ky w' F1 vs1 M1 L1 es1 hf1 hky hmf hV1.out (hE1.out.kept h'))
    have hcl:cfB M1 - 1≤cfB M1:=Nat.sub_le _ _
    have nFg:¬F1 g:=fun hF=>by have h1:=hE1.out.gd.1;have h2:=hE1.out.lo _ hF;omega
    have nFi:¬F1 ai.block:=fun hF=>by have h1:=hIb _ rfl;have h2:=hE1.out.lo _ hF;omega
    obtain⟨_,_,nFr,nFv⟩:=hE1.out.fr
    clear hy hyr hIt hIb
    generalize hmb:M1.getD ky false=mb at *
    cases mb with
    | true=>
     clear DV hmb v0
     go_upto_region 6 with(fail)
     go_quiet (fail)
     have hbq:Below wr.heap.size wr (wr.drewN nq):=Below.drewN' (Below.refl _ _) nq
     have hE6:=Lib.hid (hE1.out.kept hbq)
     have hP6:=hPr.trans (PStep.of_below hbq)
     clear hbq hca c4 hcy g0 t0 hb
     generalize wr.drewN nq=w6 at *
     go_wp2_with (fail)
     go_roundw
     case rel=>exact⟨i+1,F1,vs1,M1,L1,es1,by omega,i64e (by omega),hE6,hV1,hf1,hq1,hP6⟩
     case measure=>simp [intOf];omega
    | false=>
     replace DV:=Lib.hid (DV.out rfl)
     clear hmb
     go_upto_region 6 with(fail)
     go_quiet (fail)
     have hbq:Below wr.heap.size wr (wr.drewN nq):=Below.drewN' (Below.refl _ _) nq
     have D:=Lib.hid (DV.out _ (hbq.trans (Below.refl wr.heap.size (wr.drewN nq)).drew))
     have c4':=(hbq.cell (block_lt_of_cell c4)).trans c4
     have cy':=(hbq.cell (block_lt_of_cell hcy)).trans hcy
     have g0':=(hbq.cell (block_lt_of_cell g0)).trans g0
     have v0':=(hbq.cell (block_lt_of_cell v0)).trans v0
     have hP6:=hPr.trans (PStep.of_below hbq)
     clear hca c4 hcy g0 t0 hb v0 DV hbq hE1
     generalize wr.drewN nq=w6 at *
     have q1:w6.drew.cell? ⟨g,o+k*5+4,none⟩=_:=c4'
     have q2:w6.drew.cell? (ai.add a)=_:=cy'
     have q3:w6.drew.cell? ⟨e.gr,0,none⟩=_:=g0'
     have q4:w6.drew.cell? ⟨e.vi,0,none⟩=_:=v0'
     clear c4' cy' g0' v0'
     go_upto_region 7 with(fail)
     go_region_held3 (fun w'=>w'.cell? ⟨g,o+k*5+4,none⟩=some (.slice (some ai) m ci)∧w'.cell? (ai.add a)=some (.int .i64 (ky:Int))∧w'.cell? ⟨e.gr,0,none⟩=some (.slice (some ⟨g,o,none⟩) nodes.length c)∧w'.cell? ⟨e.vi,0,none⟩=some (.func (.func 124) #[] #[.pointer (some ⟨e.mt,0,none⟩),.pointer (some ⟨e.ou,0,none⟩),.pointer (some ⟨e.gr,0,none⟩),.pointer (some ⟨e.en,0,none⟩),.pointer (some ⟨e.vi,0,none⟩)])) (first | exact⟨by assumption,by assumption,by assumption,by assumption⟩ | go_keep)
      ((go_at_call 124;((with_reducible refine D.out.mono ?_));rintro en w7 ⟨rfl,F7,vs7,M7,L7,es7,hE7,hV7,hq7,hP7⟩;have d1:=hP7.cell q1 nFg;have d2:=hP7.cell q2 (by rw [blk_add];exact nFi);have d3:=hP7.cell q3 nFr;have d4:=hP7.cell q4 nFv))
     have hP8:=hP6.trans ((PStep.of_below (Below.refl w6.heap.size w6).drew).trans hP7)
     clear q1 q2 q3 q4 d1 d2 d3 d4 D hP7
     go_wp2_with (fail)
     go_roundw
     case rel=>exact⟨i+1,F7,vs7,M7,L7,es7,by omega,i64e (by omega),hE7,hV7,by omega,by omega,hP8⟩
     case measure=>simp [intOf];omega
end Go.Proofs.YtnnnagnjikdnnaaGreatDoor
namespace Go.Proofs.YtnnnagnjikdnnaaGreatDoor
open Go.RowKit
theorem items_drop {nodes:List GNode} {i:Nat} (h:i<nodes.length):(nodes.drop i).flatMap GNode.items=(ndAt nodes i).items ++ (nodes.drop (i+1)).flatMap GNode.items:=by
 rw [List.drop_eq_getElem_cons h,List.flatMap_cons]
 have e:nodes[i]=ndAt nodes i:=by have:=ndAt_get h;rw [List.getElem?_eq_getElem h] at this;exact Option.some.inj this
 rw [e]
def countsI (nodes:List GNode) (root:Int):List Int:=(nodes.flatMap GNode.items).foldl bump (bump (List.replicate nodes.length 0) root)
set_option maxRecDepth 20000 in
set_option maxHeartbeats 4000000 in
theorem scounts_any {B g o c:Nat} {nodes:List GNode} {root:Int} (hV:indicesV nodes root=true) (hL:NL 65536 nodes) (hN:nodes.length≤65536) (w:World) (hG:GRd w B g o nodes) :
  Calls Tryz.prog 103 #[.agg #[.slice (some ⟨g,o,none⟩) nodes.length c,.int .i64 root]] w fun e w'=>∃cb,e=.returned (.slice (some ⟨cb,0,none⟩) nodes.length nodes.length)∧w.heap.size≤cb∧Below w.heap.size w w'∧Hid (Arr w' cb 3 (I64 (countsI nodes root))):=by
 obtain⟨⟨hr1,hr2⟩,hI⟩:=idx_of hV
 obtain⟨r,rfl⟩:∃r:Nat,root=(r:Int):=⟨root.toNat,by omega⟩
 have h1:Hid (Arr (w.alloc (.cells #[.slice (some ⟨g,o,none⟩) nodes.length c,.int .i64 (r:Int)] 26)) w.heap.size 26 [.slice (some ⟨g,o,none⟩) nodes.length c,.int .i64 (r:Int)]):=Arr.new w 26 [.slice (some ⟨g,o,none⟩) nodes.length c,.int .i64 (r:Int)]
 have hB1:Hid (Below w.heap.size w (w.alloc (.cells #[.slice (some ⟨g,o,none⟩) nodes.length c,.int .i64 (r:Int)] 26))):=(Below.refl _ _).alloc (Nat.le_refl _) _
 have HV:=Lib.hid hV
 have HG:=Lib.hid hG
 have hI':=Lib.hid hI
 clear hV hG hI
 go_enter Tryz.func103,Tryz.ntmps103
 go_upto_region 1 with(fail)
 generalize w.alloc (.cells #[.slice (some ⟨g,o,none⟩) nodes.length c,.int .i64 (r:Int)] 26)=W at *
 have hGW:Hid (GRd W B g o nodes):=HG.out.below hB1.out (by exact HG.out.2.1)
 obtain⟨n,hn⟩:∃n,nodes.length=n:=⟨_,rfl⟩
 obtain⟨gb,hgb⟩:∃b,w.heap.size=b:=⟨_,rfl⟩
 have hgbl:=h1.out.lt
 rw [hgb] at h1 hgbl hB1 ⊢
 rw [hn] at h1 hr2 hN ⊢
 have x0:=h1.out.cell' (i:=0) rfl
 have x1:=h1.out.cell' (i:=1) rfl
 have HN:=Lib.hid hn
 have HGB:=Lib.hid hgb
 clear hn hgb
 go_upto_region 2 with(at_make;go_loud (refine wpList_mk rfl _ _ 28 rfl 3 _ _ Tryz.underlying28 infoInt rfl _ _ _ _ rfl rfl n n (by omega) (by omega) (by omega) (by omega) (by unfold maxLen;omega) ?_;intro cb w2 hcb hC hb2 hz2))
 have hB2:Hid (Below gb w w2):=hB1.out.trans (hb2.mono (Nat.le_of_lt hgbl))
 have l1:gb<cb:=by have:=hcb.out;omega
 have hX:=h1.out.keep hb2
 have y0:=hX.cell' (i:=0) rfl
 have y1:=hX.cell' (i:=1) rfl
 have hCz:Hid (Arr w2 cb 3 (I64 (List.replicate n 0))):=by rw [←I64_rep];exact hC
 have z0:w2.cell? ⟨cb,r,none⟩=some (.int .i64 0):=by
  have:=hCz.out.cell' (I64_getD (l:=List.replicate n 0) (k:=r) (by simp;omega))
  rw [this,List.getD_eq_getElem?_getD,List.getElem?_replicate];split <;> rfl
 have zf:=hCz.out.frozen r
 have hC3:Hid (Arr (w2.setCell ⟨cb,r,none⟩ (.int .i64 1)) cb 3 (I64 (bump (List.replicate n 0) (r:Int)))):=by
  have h:=hCz.out.store r (.int .i64 1)
  rw [I64_set] at h
  have e:(List.replicate n (0:Int)).set r 1=bump (List.replicate n 0) (r:Int):=by
   unfold bump
   rw [Int.toNat_natCast]
   have:(List.replicate n (0:Int)).getD r 0=0:=by rw [List.getD_eq_getElem?_getD,List.getElem?_replicate];split <;> rfl
   rw [this];rfl
  rw [e] at h
  exact h
 have hB3:=Lib.hid (hB2.out.setCell (p:=⟨cb,r,none⟩) (show gb≤cb by omega) (.int .i64 1))
 have hX3:=Lib.hid (hX.far (p:=⟨cb,r,none⟩) (show gb≠cb by omega) (.int .i64 1))
 clear hC hCz hB2 hb2 hz2 x0 x1 h1 hX
 go_upto_region 3 with(fail)
 clear y0 y1 z0 zf
 generalize w2.setCell ⟨cb,r,none⟩ (.int .i64 1)=w3 at *
 have y0:=hX3.out.cell' (i:=0) rfl
 have HCB:Hid (CB (bump (List.replicate n 0) (r:Int)) 1):=(CB.zero n).bump _
 have HFI:Hid (((nodes.drop 0).flatMap GNode.items).foldl bump (bump (List.replicate n 0) (r:Int))=countsI nodes (r:Int)):=by
  rw [List.drop_zero,←HN.out];exact rfl
 have hlen0:Hid ((bump (List.replicate n 0) (r:Int)).length=n):=by rw [bump_len];exact List.length_replicate
 go_wp2_with (fail)
 go_loopw [22] (fun v wr=>∃(i:Nat) (cur:List Int) (q:Nat),i≤n∧v=.int .i64 (i:Int)∧q≤1+i*65536∧Hid (CB cur q)∧Hid (cur.length=n)∧Hid (((nodes.drop i).flatMap GNode.items).foldl bump cur=countsI nodes (r:Int))∧Hid (Arr wr cb 3 (I64 cur))∧Hid (Below gb w wr)∧w3.grownBy wr (some cb)) (fun v _=>n - (intOf v).toNat)
 case atStart=>exact⟨0,_,1,Nat.zero_le _,rfl,by omega,HCB,hlen0,HFI,hC3,hB3,World.grownBy.refl _ _⟩
 case round=>
  obtain⟨i,cur,q,hi,rfl,hq,hcb1,hcl,hfi,hCr,hBr,hgr⟩:=hrel
  by_cases hin:i=n
  ·have hin':¬(i:Int)<n:=by omega
   have he:cur=countsI nodes (r:Int):=by
    have:=hfi.out
    rw [List.drop_of_length_le (by have:=HN.out;omega)] at this
    exact this
   subst he
   go_wp2_with (fail)
   go_ret
   exact⟨cb,by rw [HN.out];rfl,by have:=HGB.out;omega,by rw [HGB.out];exact hBr,hCr⟩
  ·have hin':(i:Int)<n:=by omega
   have hi2:i<nodes.length:=by have:=HN.out;omega
   have hGr:=(HG.out.below hBr.out (by have:=HG.out.2.1;have:=HGB.out;omega)).of_at hi2
   obtain⟨K,ck,I,ci,c0,c1,c2,c3,c4,⟨hK,hKb⟩,hIt,hIb⟩:=hGr
   have k0:(0:Int)≤i:=by omega
   have hcbl:=hCr.out.lt
   have hND:Hid (Arr (wr.alloc (.cells #[.int .i64 (ndAt nodes i).kind,.string (mks (ndAt nodes i).text),.bool (ndAt nodes i).ord,.slice K (ndAt nodes i).keys.length ck,.slice I (ndAt nodes i).items.length ci] 30)) wr.heap.size 30 [.int .i64 (ndAt nodes i).kind,.string (mks (ndAt nodes i).text),.bool (ndAt nodes i).ord,.slice K (ndAt nodes i).keys.length ck,.slice I (ndAt nodes i).items.length ci]):=Arr.new wr _ _
   have hbn:Hid (Below wr.heap.size wr (wr.alloc (.cells #[.int .i64 (ndAt nodes i).kind,.string (mks (ndAt nodes i).text),.bool (ndAt nodes i).ord,.slice K (ndAt nodes i).keys.length ck,.slice I (ndAt nodes i).items.length ci] 30))):=(Below.refl _ _).alloc (Nat.le_refl _) _
   have HK:=Lib.hid hK
   have HI:=Lib.hid hIt
   have HKB:=Lib.hid hKb
   have HIB:=Lib.hid hIb
   clear hK hIt hKb hIb
   go_upto_region 6 with(fail)
   clear c0 c1 c2 c3 c4
   generalize (wr.alloc (.cells #[.int .i64 (ndAt nodes i).kind,.string (mks (ndAt nodes i).text),.bool (ndAt nodes i).ord,.slice K (ndAt nodes i).keys.length ck,.slice I (ndAt nodes i).items.length ci] 30))=w5 at *
   have hB5:Hid (Below gb w w5):=hBr.out.trans (hbn.out.mono (by have:=hBr.out.size;have:=HGB.out;omega))
   have hC5:=Lib.hid (hCr.out.keep hbn.out)
   have hK5:=Lib.hid (HK.out.keep hbn.out)
   have hI5:=Lib.hid (HI.out.keep hbn.out)
   have hg5:Hid (w3.grownBy w5 (some cb)):=grown_trans hgr ⟨hbn.out.os,hbn.out.tape,hbn.out.output,hbn.out.size,fun j hj _=>hbn.out.block j hj⟩
   have hnbl:=hND.out.lt
   obtain⟨nb,hnb⟩:∃b,wr.heap.size=b:=⟨_,rfl⟩
   rw [hnb] at hND hnbl hcbl ⊢
   have hgbn:gb<nb:=by have:=hBr.out.size;have:=HGB.out;omega
   obtain⟨hLk,hLi⟩:=hL i hi2
   have hrf:=Lib.hid (hI'.out i hi2)
   rw [items_drop hi2,List.foldl_append] at hfi
   clear hnb hBr hCr HK HI hbn hgr
   generalize ndAt nodes i=nd at *
   have n4:=hND.out.cell' (i:=4) rfl
   go_wp2_with (fail)
   go_loopw [29] (fun v ws=>∃(j:Nat) (cu:List Int) (q':Nat),j≤nd.items.length∧v=.int .i64 (j:Int)∧q'≤q+j∧Hid (CB cu q')∧Hid (cu.length=n)∧Hid (((nd.items.drop j)).foldl bump cu=nd.items.foldl bump cur)∧Hid (Arr ws cb 3 (I64 cu))∧Hid (Below gb w ws)∧w5.grownBy ws (some cb)) (fun v _=>nd.items.length - (intOf v).toNat)
   case atStart=>exact⟨0,cur,q,Nat.zero_le _,rfl,by omega,hcb1,hcl,rfl,hC5,hB5,World.grownBy.refl _ _⟩
   case round=>
    obtain⟨j,cu,q',hj,rfl,hq',hcb2,hcl2,hfk,hCs,hBs,hgs⟩:=hrel
    by_cases hjl:j=nd.items.length
    ·have hjl':¬(j:Int)<nd.items.length:=by omega
     have he:cu=nd.items.foldl bump cur:=by
      have:=hfk.out
      rw [List.drop_of_length_le (by omega)] at this
      exact this
     subst he
     have hgo:=Lib.hid (grown_trans hg5.out hgs)
     go_wp2_with (fail)
     go_roundw
     case rel=>exact⟨i+1,_,q',by omega,i64e (by omega),by omega,hcb2,hcl2,hfi,hCs,hBs,hgo.out⟩
     case measure=>simp [intOf];omega
    ·have hjl':(j:Int)<nd.items.length:=by omega
     obtain⟨x,hx⟩:∃x,nd.items[j]? = some x:=⟨_,List.getElem?_eq_getElem (by omega)⟩
     obtain⟨ad,rfl,hc⟩:=(hI5.out.grown hgs (fun ad e h=>by have:=HIB.out ad e;have:=Option.some.inj h;have:=HG.out.2.1;have:=HGB.out;omega)).at_ (I64_get hx)
     have hxr:=hrf.out x (by unfold refs;exact List.mem_append.2 (.inr (List.mem_of_getElem? hx)))
     obtain⟨kx,rfl⟩:∃kx:Nat,x=(kx:Int):=⟨x.toNat,by omega⟩
     have hkn:(kx:Int)<n:=by have:=HN.out;omega
     have p0:=hCs.out.cell' (I64_getD (l:=cu) (k:=kx) (by have:=hcl2.out;omega))
     have pf:=hCs.out.frozen kx
     obtain⟨hv1,hv2⟩:=hcb2.out kx
     have hCt:Hid (Arr (wr.setCell ⟨cb,kx,none⟩ (.int .i64 (cu.getD kx 0+1))) cb 3 (I64 (bump cu (kx:Int)))):=by
      have h:=hCs.out.store kx (.int .i64 (cu.getD kx 0+1))
      rw [I64_set] at h
      exact h
     have hgt:=Lib.hid (grown_trans hgs (grown_set wr ⟨cb,kx,none⟩ (.int .i64 (cu.getD kx 0+1))))
     have hBt:=Lib.hid (hBs.out.setCell (p:=⟨cb,kx,none⟩) (show gb≤cb by omega) (.int .i64 (cu.getD kx 0+1)))
     have hfk2:Hid ((nd.items.drop (j+1)).foldl bump (bump cu (kx:Int))=nd.items.foldl bump cur):=by
      have:=hfk.out
      rw [drop_cons_at hx,List.foldl_cons] at this
      exact this
     have hcl3:Hid ((bump cu (kx:Int)).length=n):=by rw [bump_len];exact hcl2.out
     have hcb3:=Lib.hid (hcb2.out.bump (kx:Int))
     clear hfk hx hxr hCs
     generalize cu.getD kx 0=vx at *
     go_wp2_with (fail)
     go_roundw
     case rel=>exact⟨j+1,bump cu (kx:Int),q'+1,by omega,i64e (by omega),by omega,hcb3,hcl3,hfk2,hCt,hBt,hgt.out⟩
     case measure=>simp [intOf];omega
end Go.Proofs.YtnnnagnjikdnnaaGreatDoor
